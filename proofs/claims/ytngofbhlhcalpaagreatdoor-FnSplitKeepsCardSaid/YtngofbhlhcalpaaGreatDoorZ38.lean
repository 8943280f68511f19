/-
  Lemmas and contracts of this claim, texts Brit, Lexes, SplitP, HelpA, HelpC, LawQ, SplA, SplB, SplC, SplD, SplE, SplF. No statement of the seat is proved here.
-/
import Derived.Test.YtngofbhlhcalpaaGreatDoorZ02
import Derived.Test.YtngofbhlhcalpaaGreatDoorZ36
import Derived.Deep.RegionHeld3
import Derived.Deep.LoopGhost
import Derived.Laws.RangeString
import Derived.Laws.RangeAny
import Derived.Lib.TrimUEq
import Derived.LoopTactic
import Derived.Laws.OwnMore
import Derived.Deep.AppendLies
namespace Go.Proofs.YtngofbhlhcalpaaGreatDoor.lexer
open Go.RowKit Go.Proofs.YtngofbhlhcalpaaGreatDoor.gen

theorem britStart (s : ByteArray) : max (0 : Int) ((s.size : Int) - 9) = ((s.size - 9 : Nat) : Int) := by omega
theorem byt_of_get (s : ByteArray) (k : Nat) (h : k < s.size) (h92 : (s[k].toNat : Int) = 92) : byt s k = 92 := by rw [byt_in s k h, h92]

set_option maxRecDepth 10000 in
theorem brittle_no (s : ByteArray) (w : World) (hs : s.size ≤ 2147483647) (h : NB s) : Calls Tryz.prog 10 #[.string s] w fun e w' => e = .returned (.bool false) ∧ w = w' := by
  have HB := Lib.hid h
  have hm := britStart s
  clear h
  go_enter Tryz.func10, Tryz.ntmps10
  go_wp2_with fail
  clear hm
  go_loopg [3] (s.size - (s.size - 9)) (fun g i wr => wr = w ∧ ∃ k : Nat, g = s.size - k ∧ i = .int .i64 k ∧ s.size - 9 ≤ k ∧ k ≤ s.size)
  case atStart => exact ⟨rfl, s.size - 9, rfl, rfl, Nat.le_refl _, by omega⟩
  case round =>
    obtain ⟨rfl, k, hg, rfl, hk9, hk⟩ := hrel
    by_cases hlt : k < s.size
    · have hne : ((s[k].toNat : Int) == 92) = false := by
        rw [beq_eq_false_iff_ne]
        intro e
        have := HB.out k (byt_of_get s k hlt e)
        omega
      have hkw : IntKind.i64.wrap ((k : Int) + 1) = (k : Int) + 1 := IntWalk.i64_in _ (by omega)
      have hi0 : (0 : Int) ≤ (k : Int) := by omega
      have hi1 : (k : Int) < (s.size : Int) := by omega
      go_wp2_with fail
      go_roundg (s.size - (k + 1))
      case measure => omega
      case rel => exact ⟨rfl, k + 1, rfl, by go_num, by omega, by omega⟩
    · go_wp2_with fail
      go_ret
      exact ⟨rfl, rfl⟩

set_option maxRecDepth 10000 in
theorem brittle_yes (s : ByteArray) (w : World) (hs : s.size ≤ 2147483647) (h : ¬ NB s) : Calls Tryz.prog 10 #[.string s] w fun e w' => e = .returned (.bool true) ∧ w = w' := by
  have HB := Lib.hid h
  have hm := britStart s
  clear h
  go_enter Tryz.func10, Tryz.ntmps10
  go_wp2_with fail
  clear hm
  go_loopg [3] (s.size - (s.size - 9)) (fun g i wr => wr = w ∧ ∃ k : Nat, g = s.size - k ∧ i = .int .i64 k ∧ s.size - 9 ≤ k ∧ k ≤ s.size ∧ Hid (∀ j : Nat, s.size - 9 ≤ j → j < k → ¬ byt s j = 92))
  case atStart => exact ⟨rfl, s.size - 9, rfl, rfl, Nat.le_refl _, by omega, fun j h1 h2 => by omega⟩
  case round =>
    obtain ⟨rfl, k, hg, rfl, hk9, hk, HJ⟩ := hrel
    by_cases hlt : k < s.size
    · have hi0 : (0 : Int) ≤ (k : Int) := by omega
      have hi1 : (k : Int) < (s.size : Int) := by omega
      by_cases h92 : (s[k].toNat : Int) = 92
      · have hne : ((s[k].toNat : Int) == 92) = true := by rw [beq_iff_eq]; exact h92
        clear h92
        go_wp2_with fail
        go_ret
        exact ⟨rfl, rfl⟩
      · have hne : ((s[k].toNat : Int) == 92) = false := by rw [beq_eq_false_iff_ne]; exact h92
        have HJ2 := Lib.hid (show ∀ j : Nat, s.size - 9 ≤ j → j < k + 1 → ¬ byt s j = 92 from fun j h1 h2 => by
          rcases Nat.lt_or_ge j k with h3 | h3
          · exact HJ.out j h1 h3
          · obtain rfl : j = k := by omega
            rw [byt_in s j hlt]; exact h92)
        have hkw : IntKind.i64.wrap ((k : Int) + 1) = (k : Int) + 1 := IntWalk.i64_in _ (by omega)
        clear h92
        go_wp2_with fail
        go_roundg (s.size - (k + 1))
        case measure => omega
        case rel => exact ⟨rfl, k + 1, rfl, by go_num, by omega, by omega, HJ2⟩
    · exfalso
      apply HB.out
      intro j hj
      rcases Nat.lt_or_ge (j + 9) s.size with h1 | h1
      · exact h1
      · have h2 := (byt_lt s j (by omega)).2
        exact absurd hj (HJ.out j (by omega) (by omega))

end Go.Proofs.YtngofbhlhcalpaaGreatDoor.lexer

namespace Go.Proofs.YtngofbhlhcalpaaGreatDoor.lexer
open Go.RowKit Go.Proofs.YtngofbhlhcalpaaGreatDoor.gen
open Go.Lib (headSpace spaceSeqs)

def tkA : Tk := ⟨kIdent, ⟨#[97]⟩, 0, 1, none⟩
theorem tok_a : tok kNone [97] = .ok tkA := by kernel_rfl

theorem lex_a : lexL kNone false [97] 0 = ([(0, ⟨[], 0, tkA⟩), (1, ⟨[], 0, plain kEof 0⟩)], none) := by
  have hgap : gap [97] = ([], 0, false) := by
    refine gap_zero ?_ ?_
    · simp [headSpace, spaceSeqs, List.isPrefixOf]
    · simp [com, show nn 97 = 97 from rfl]
  have hn1 : next kNone false [97] = .ok ⟨[], 0, tkA⟩ := by
    unfold next
    simp only [hgap, gapLen, comsLen, Nat.zero_add, Bool.false_eq_true, if_false, List.drop_zero, tokD, tok_a]
  have hl : (⟨[], 0, tkA⟩ : Nt).len = 1 := rfl
  have hg : Good tkA := ⟨by simp [tkA], kIdent_ne⟩
  rw [lexL_more 0 hn1 hg, hl]
  have hn2 : ∀ la d, next la d [] = .ok ⟨[], 0, plain kEof 0⟩ := fun la d => by
    unfold next
    simp only [gap_nil, gapLen, comsLen, Nat.zero_add, Bool.false_eq_true, if_false, List.drop_nil, tokD_nil]
  have hd : ([97] : List UInt8).drop 1 = [] := rfl
  rw [hd, lexL_eof _ (hn2 _ _) rfl]

theorem lexAll_a : lexAll ⟨#[97]⟩ = ([(0, ⟨[], 0, tkA⟩), (1, ⟨[], 0, plain kEof 0⟩)], none) := lex_a

def TrueRes (w : World) (e : Ending) (w' : World) : Prop := e = .returned (.bool true) ∧ Below w.heap.size w w'

set_option maxRecDepth 100000 in
theorem lexes_any (w : World) (hc : Ctx w) : Calls Tryz.prog 11 #[] w (TrueRes w) := by
  have HC := Lib.hid hc
  clear hc
  have hsz : (⟨#[97]⟩ : ByteArray).size ≤ 1048576 := by decide
  have HSZ := Lib.hid hsz
  clear hsz
  go_enter Tryz.func11, Tryz.ntmps11
  go_wp2_with fail
  refine (lex_any _ _ HSZ.out HC.out (.inr (by rw [lexAll_a]))).mono ?_
  rintro e w1 ⟨v, rfl, hT, hb⟩
  have h2 : (lexAll ⟨#[97]⟩).1.map (itOf ⟨#[97]⟩) = [itOf ⟨#[97]⟩ (0, ⟨[], 0, tkA⟩), itOf ⟨#[97]⟩ (1, ⟨[], 0, plain kEof 0⟩)] := by rw [lexAll_a]; rfl
  rw [h2] at hT
  rcases hT.shape with ⟨_, h3⟩ | ⟨g, cap, rfl, _⟩
  · cases h3
  have ht : w1.cell? ⟨g, 3, none⟩ = some (.string ⟨#[97]⟩) := (hT.at_ 0 _ rfl).text
  have e1 : (lexAll ⟨#[97]⟩).2.isNone = true := by rw [lexAll_a]; rfl
  have HB := Lib.hid hb
  clear hT h2 hb
  go_wp2_with fail
  go_ret
  exact ⟨rfl, HB.out⟩

end Go.Proofs.YtngofbhlhcalpaaGreatDoor.lexer

namespace Go.Proofs.YtngofbhlhcalpaaGreatDoor.lexer
open Go.RowKit Go.Proofs.YtngofbhlhcalpaaGreatDoor.gen
open Go.Proofs.YtngofbhlhcalpaaGreatDoor.upper (up isKw upb upb_lo upb_no)
open Go.Lib (headSpace spaceSeqs)

def isSemi (t : Tk) : Bool := t.kind.data.toList == [59]

/-- Where a token stands; where the first comment ahead of it stands, if there is one, else the token. -/
def atOf (e : Nat × Nt) : Nat := e.1 + e.2.pre
def headOf (e : Nat × Nt) : Nat := match e.2.coms with
  | [] => e.1 + e.2.pre
  | c :: _ => e.1 + c.1

def semis : List (Nat × Nt) → List Nat
  | [] => []
  | e :: r => if isSemi e.2.tk then atOf e :: semis r else semis r

/-- The statements, each from a place to a place. -/
def cuts (first : Nat) : List (Nat × Nt) → List (Nat × Nat)
  | [] => []
  | e :: r =>
    if isSemi e.2.tk then (first, atOf e) :: cuts (match r with | [] => 0 | f :: _ => headOf f) r
    else if r.isEmpty then (if atOf e = first then [] else [(first, atOf e)]) else cuts first r

theorem semi_ne (t : Tk) {k : ByteArray} (h : t.kind = k) (hk : (k.data.toList == [59]) = false) : isSemi t = false := by unfold isSemi; rw [h]; exact hk

theorem num_semi {l : List UInt8} {t : Tk} (h : num l = .ok t) : isSemi t = false := by
  obtain ⟨_, rfl⟩ := num_ok h
  refine semi_ne _ (k := numK l) rfl ?_
  unfold numK
  split <;> rfl

theorem qtok_semi {q : List UInt8} {raw uni ident : Bool} {kind : ByteArray} {l : List UInt8} {t : Tk} (hk : (kind.data.toList == [59]) = false) (h : qtok q raw uni ident kind l = .ok t) : isSemi t = false := by
  unfold qtok at h
  split at h
  · split at h
    · cases h
    · injection h with h
      subst h
      exact semi_ne _ (k := kind) rfl hk
  · cases h
  · cases h
  · cases h

theorem upb_59 {c : UInt8} (h : ids (nn c) = true) : upb c ≠ 59 := by
  intro e
  by_cases hlo : 97 ≤ c.toNat ∧ c.toNat ≤ 122
  · have := upb_lo c hlo
    rw [e] at this
    have h2 : ((59 : UInt8).toNat : Int) = 59 := rfl
    omega
  · rw [upb_no c hlo] at e
    subst e
    revert h
    decide

theorem word_semi {c : UInt8} {r : List UInt8} {t : Tk} (hc : ids (nn c) = true) (h : word (c :: r) = .ok t) : isSemi t = false := by
  have hp : idp (nn c) = true := by unfold idp; rw [hc]; simp
  have hl : idLen (c :: r) = idLen r + 1 := by simp [idLen, hp]
  unfold word at h
  simp only at h
  split at h
  · injection h with h
    subst h
    unfold isSemi
    rw [hl, beq_eq_false_iff_ne]
    simp only [plain, up, List.take_succ_cons, List.map_cons]
    intro e
    injection e with e1 _
    exact upb_59 hc e1
  · injection h with h
    subst h
    exact semi_ne _ (k := kIdent) rfl rfl

theorem tok_semi {last : ByteArray} {l : List UInt8} {t : Tk} (h : tok last l = .ok t) (hs : isSemi t = true) : t.n = 1 := by
  have no : ∀ {u : Tk}, isSemi u = false → u = t → t.n = 1 := fun h e => by rw [e, hs] at h; cases h
  cases l with
  | nil => injection h with h; exact no (semi_ne _ (k := kEof) rfl rfl) h
  | cons c r =>
    rw [tok] at h
    split at h
    · injection h with h; rw [← h]; rfl
    · split at h
      · split at h
        · exact no (num_semi h) rfl
        · injection h with h; rw [← h]
      · split at h
        · split at h
          · rename_i d _
            injection h with h
            refine no (u := plain ⟨#[c, d]⟩ 2) ?_ h
            unfold isSemi
            rw [beq_eq_false_iff_ne]
            intro e
            have e : [c, d] = [59] := e
            injection e with _ e2
            cases e2
          · split at h
            · injection h with h
              exact no (semi_ne _ (k := kParam) rfl rfl) h
            · injection h with h; rw [← h]; rfl
        · split at h
          · exact no (qtok_semi rfl h) rfl
          · split at h
            · exact no (num_semi h) rfl
            · split at h
              · obtain ⟨u, hu, rfl⟩ := Out.shift_ok h
                have h1 : isSemi u = false := qtok_semi (by split <;> rfl) hu
                exact no (u := { u with n := u.n + _ }) h1 rfl
              · split at h
                · rename_i hi
                  exact no (word_semi hi h) rfl
                · cases h

theorem tokD_semi {last : ByteArray} {dot : Bool} {l : List UInt8} {t : Tk} (h : tokD last dot l = .ok t) (hs : isSemi t = true) : t.n = 1 := by
  unfold tokD at h
  split at h
  · unfold ftok at h
    split at h
    · injection h with h
      rw [← h, semi_ne _ (k := kIdent) rfl rfl] at hs
      cases hs
    · exact tok_semi h hs
  · exact tok_semi h hs

theorem headSpace_seq (l : List UInt8) (h : ¬ headSpace l = 0) : ∃ q u, q ∈ spaceSeqs ∧ l = q ++ u ∧ headSpace l = q.length := by
  unfold headSpace at h ⊢
  cases hf : spaceSeqs.find? (·.isPrefixOf l) with
  | none => rw [hf] at h; exact absurd rfl h
  | some q =>
    have h1 := List.find?_some hf
    obtain ⟨u, hu⟩ := List.isPrefixOf_iff_prefix.1 h1
    exact ⟨q, u, List.mem_of_find?_eq_some hf, hu.symm, rfl⟩
theorem headSpace_app (q u : List UInt8) (h : q ∈ spaceSeqs) : headSpace (q ++ u) = q.length := by
  have hp := seqs_pos q h
  obtain ⟨h1, h2⟩ := Go.Lib.seq_decodes q h u
  rw [Go.Lib.headSpace_eq _ (by intro e; rw [List.append_eq_nil_iff] at e; rw [e.1] at hp; simp at hp), h1, h2, if_pos rfl]

theorem spc_seq (q u : List UInt8) (h : q ∈ spaceSeqs) : spc (q ++ u) = q.length + spc u := by
  have hp := seqs_pos q h
  have e := headSpace_app q u h
  rw [spc_succ (by omega), e, List.drop_left]

theorem spc_take : ∀ (m : Nat) (l : List UInt8), l.length ≤ m → spc (l.take (spc l)) = spc l := by
  intro m
  induction m with
  | zero =>
    intro l h
    obtain rfl : l = [] := List.eq_nil_of_length_eq_zero (by omega)
    rw [List.take_nil]
  | succ m ih =>
    intro l h
    by_cases h0 : headSpace l = 0
    · rw [spc_zeroP h0, List.take_zero, spc_nil]
    · obtain ⟨q, u, hq, rfl, hl⟩ := headSpace_seq l h0
      have hp := seqs_pos q hq
      rw [List.length_append] at h
      rw [spc_seq q u hq, List.take_append, List.take_of_length_le (by omega), Nat.add_sub_cancel_left, spc_seq q _ hq, ih u (by omega)]

/-- Between two places there are blanks alone. -/
def Blanks (S : List UInt8) (a b : Nat) : Prop := spc ((S.drop a).take (b - a)) = b - a

theorem Blanks.nil (S : List UInt8) (a : Nat) : Blanks S a a := by unfold Blanks; rw [Nat.sub_self, List.take_zero, spc_nil]

theorem head_next {last : ByteArray} {dot : Bool} {l : List UInt8} {t : Nt} (h : next last dot l = .ok t) (p : Nat) : headOf (p, t) = p + spc l ∧ headOf (p, t) ≤ atOf (p, t) := by
  obtain ⟨h1, h2, h3, _⟩ := next_ok h
  cases hc : com (l.drop (spc l)) with
  | no =>
    rw [gap_no l hc] at h2 h3
    have e : t.pre = spc l := by unfold Nt.pre; rw [h2, h3]; simp [comsLen]
    unfold headOf atOf
    simp only [h2, e]
    exact ⟨by first | trivial | rfl, by first | exact Nat.le_refl _ | omega⟩
  | opened => rw [gap_opened l hc] at h1; cases h1
  | ok n =>
    rw [gap_ok l n hc] at h2
    have e : spc l ≤ t.pre := by unfold Nt.pre; rw [h2]; simp only [comsLen]; omega
    unfold headOf atOf
    simp only [h2]
    exact ⟨by first | trivial | rfl, by omega⟩

theorem lexd_head {last : ByteArray} {dot : Bool} {l : List UInt8} {p : Nat} {ts : List (Nat × Nt)} (h : Lexd last dot l p ts) : ∃ t r, ts = (p, t) :: r ∧ next last dot l = .ok t := by
  cases h with
  | eof h1 _ => exact ⟨_, _, rfl, h1⟩
  | more h1 _ _ => exact ⟨_, _, rfl, h1⟩

/-- The statements and the semicolons of a text. -/
def Okc (S : List UInt8) : Nat → List (Nat × Nat) → List Nat → Prop
  | first, [], A => A = [] ∧ first = S.length
  | first, r :: R, A => match A with
    | [] => R = [] ∧ r = (first, S.length) ∧ first ≤ S.length
    | a :: A => r = (first, a) ∧ first ≤ a ∧ a < S.length ∧ ∃ f', a + 1 ≤ f' ∧ f' ≤ S.length ∧ Blanks S (a + 1) f' ∧ Okc S f' R A

theorem cuts_ok {S : List UInt8} : ∀ {last : ByteArray} {dot : Bool} {l : List UInt8} {p : Nat} {ts : List (Nat × Nt)}, Lexd last dot l p ts → l = S.drop p → p ≤ S.length → ∀ first, (∀ e r, ts = e :: r → first ≤ atOf e) → Okc S first (cuts first ts) (semis ts) := by
  intro last dot l p ts hl
  induction hl with
  | @eof last dot l p t h1 h2 =>
    intro hS hp first hf
    obtain ⟨_, _, _, _, _, _, h3⟩ := next_ok h1
    have hpre : t.pre = l.length := by
      rcases h3 with h3 | h3
      · exact h3.2
      · exact absurd (by rw [h2]; rfl) h3.1.2
    have hat : atOf (p, t) = S.length := by
      show p + t.pre = _
      rw [hpre, hS, List.length_drop]; omega
    have hns : isSemi t.tk = false := by rw [h2]; rfl
    have hff := hf _ _ rfl
    rw [hat] at hff
    simp only [cuts, semis, hns, Bool.false_eq_true, if_false, List.isEmpty_nil, if_true, hat]
    split
    · rename_i h; exact ⟨rfl, h.symm⟩
    · exact ⟨rfl, rfl, hff⟩
  | @more last dot l p t ts h1 h2 h3 ih =>
    intro hS hp first hf
    have hk := next_ok h1
    have hlen := hk.2.2.2.2.2.1
    have hll : l.length = S.length - p := by rw [hS, List.length_drop]
    have hff : first ≤ p + t.pre := hf _ _ rfl
    obtain ⟨u, r, hts, hu⟩ := lexd_head h3
    have hd : l.drop t.len = S.drop (p + t.len) := by rw [hS, List.drop_drop]
    have hih := ih hd (by omega)
    obtain ⟨hh1, hh2⟩ := head_next hu (p + t.len)
    cases hs : isSemi t.tk with
    | true =>
      have hn := tokD_semi hk.2.2.2.2.1 hs
      have hl1 : p + t.len = p + t.pre + 1 := by unfold Nt.len; rw [hn]; omega
      subst hts
      have hr := hih (headOf (p + t.len, u)) (fun e r he => by injection he with he _; rw [← he]; exact hh2)
      simp only [cuts, semis, hs, if_true]
      have hsp := spc_le (l.drop t.len)
      rw [List.length_drop] at hsp
      refine ⟨rfl, hff, ?_, headOf (p + t.len, u), ?_, ?_, ?_, hr⟩
      · show p + t.pre < _
        have := h2.1
        omega
      · show p + t.pre + 1 ≤ _
        omega
      · omega
      · show Blanks S (p + t.pre + 1) _
        rw [← hl1, hh1]
        unfold Blanks
        rw [Nat.add_sub_cancel_left, ← hd]
        exact spc_take _ _ (Nat.le_refl _)
    | false =>
      subst hts
      simp only [cuts, semis, hs, Bool.false_eq_true, if_false, List.isEmpty_cons]
      refine hih first (fun e r he => ?_)
      injection he with he _
      rw [← he]
      have h9 : (p + t.len) ≤ atOf (p + t.len, u) := Nat.le_add_right _ _
      unfold Nt.len at h9
      unfold Nt.len
      omega

/-- What is told of the statements, one by one. -/
structure Facts (S : List UInt8) (first : Nat) (R : List (Nat × Nat)) (A : List Nat) : Prop where
  num : A.length ≤ R.length ∧ R.length ≤ A.length + 1
  elem : ∀ (i : Nat) (r : Nat × Nat), R[i]? = some r → r.1 ≤ r.2 ∧ r.2 ≤ S.length
  fst : ∀ (r : Nat × Nat), R[0]? = some r → r.1 = first
  mid : ∀ (i : Nat) (r r' : Nat × Nat), R[i]? = some r → R[i + 1]? = some r' → A[i]? = some r.2 ∧ r.2 + 1 ≤ r'.1 ∧ r'.1 ≤ S.length ∧ Blanks S (r.2 + 1) r'.1
  last : ∀ (i : Nat) (r : Nat × Nat), R[i]? = some r → i + 1 = R.length → (R.length = A.length ∧ A[i]? = some r.2 ∧ r.2 < S.length ∧ Blanks S (r.2 + 1) S.length) ∨ (R.length = A.length + 1 ∧ r.2 = S.length)

theorem facts_of (S : List UInt8) : ∀ (R : List (Nat × Nat)) (first : Nat) (A : List Nat), Okc S first R A → Facts S first R A := by
  intro R
  induction R with
  | nil =>
    intro first A h
    obtain ⟨rfl, h2⟩ := h
    exact ⟨⟨Nat.le_refl _, by simp⟩, fun i r h => by simp at h, fun r h => by simp at h, fun i r r' h => by simp at h, fun i r h => by simp at h⟩
  | cons r R ih =>
    intro first A h
    cases A with
    | nil =>
      obtain ⟨rfl, rfl, h3⟩ := h
      refine ⟨⟨by simp, by simp⟩, fun i r h => ?_, fun r h => ?_, fun i r r' h h' => ?_, fun i r h h' => ?_⟩
      · cases i with
        | zero => simp at h; subst h; exact ⟨h3, Nat.le_refl _⟩
        | succ i => simp at h
      · simp at h; subst h; rfl
      · simp at h'
      · cases i with
        | zero => simp at h; subst h; exact .inr ⟨rfl, rfl⟩
        | succ i => simp at h
    | cons a A =>
      obtain ⟨rfl, h2, h3, f', h4, h5, h6, h7⟩ := h
      have hF := ih f' A h7
      refine ⟨⟨by have := hF.num.1; simp only [List.length_cons]; omega, by have := hF.num.2; simp only [List.length_cons]; omega⟩, fun i r h => ?_, fun r h => ?_, fun i r r' h h' => ?_, fun i r h h' => ?_⟩
      · cases i with
        | zero => simp at h; subst h; exact ⟨h2, Nat.le_of_lt h3⟩
        | succ i => exact hF.elem i r (by simpa using h)
      · simp at h; subst h; rfl
      · simp only [List.getElem?_cons_succ] at h'
        cases i with
        | zero =>
          simp at h; subst h
          have := hF.fst r' h'
          exact ⟨rfl, by rw [this]; exact h4, by rw [this]; exact h5, by rw [this]; exact h6⟩
        | succ i => exact hF.mid i r r' (by simpa using h) h'
      · cases i with
        | zero =>
          simp at h; subst h
          simp only [List.length_cons] at h'
          obtain rfl : R = [] := List.eq_nil_of_length_eq_zero (by omega)
          obtain ⟨rfl, rfl⟩ := h7
          exact .inl ⟨rfl, rfl, h3, h6⟩
        | succ i =>
          simp only [List.getElem?_cons_succ] at h ⊢
          simp only [List.length_cons] at h' ⊢
          rcases hF.last i r h (by omega) with ⟨k1, k2, k3⟩ | ⟨k1, k2⟩
          · exact .inl ⟨by omega, k2, k3⟩
          · exact .inr ⟨by omega, k2⟩

/-- Of a list of tokens. -/
def orOne (R : List (Nat × Nat)) : List (Nat × Nat) := if R.isEmpty then [(0, 0)] else R

theorem orOne_facts {S : List UInt8} {R : List (Nat × Nat)} {A : List Nat} (h : Okc S 0 R A) : Facts S 0 (orOne R) A ∧ 0 < (orOne R).length := by
  unfold orOne
  cases R with
  | nil =>
    obtain ⟨rfl, h2⟩ := h
    refine ⟨facts_of S _ _ _ ?_, by simp⟩
    exact ⟨rfl, by rw [← h2], Nat.zero_le _⟩
  | cons r R => exact ⟨facts_of S _ _ _ h, by simp⟩

theorem cuts_facts (S : List UInt8) (h : (lexL kNone false S 0).2 = none) : Facts S 0 (orOne (cuts 0 (lexL kNone false S 0).1)) (semis (lexL kNone false S 0).1) ∧ 0 < (orOne (cuts 0 (lexL kNone false S 0).1)).length := by
  have hl := lexd_of _ kNone false S 0 _ (Nat.le_refl _) (Prod.ext rfl h)
  exact orOne_facts (cuts_ok hl (by rw [List.drop_zero]) (Nat.zero_le _) 0 fun _ _ _ => Nat.zero_le _)

end Go.Proofs.YtngofbhlhcalpaaGreatDoor.lexer

namespace Go.Proofs.YtngofbhlhcalpaaGreatDoor.lexer
open Go.RowKit Go.Proofs.YtngofbhlhcalpaaGreatDoor.gen

def BoolRes (b : Bool) (w : World) (e : Ending) (w' : World) : Prop := e = .returned (.bool b) ∧ Below w.heap.size w w'

/-- The same but for their places and what stands ahead of them. -/
structure Alike (a b : IT) : Prop where
  kind : a.kind = b.kind
  raw : a.raw = b.raw
  text : a.text = b.text
  base : a.base = b.base

def aggOf (t : IT) (ca : Option Addr) (cn cc : Nat) : Value := .agg #[.string t.kind, .string t.space, .string t.raw, .string t.text, .int .i64 t.base, .int .i64 t.pos, .int .i64 t.en, .slice ca cn cc]

set_option maxRecDepth 100000 in
theorem alike_yes (a b : IT) (ca cb : Option Addr) (na ma nb mb : Nat) (w : World) (h : Alike a b) :
    Calls Tryz.prog 14 #[.agg #[.string a.kind, .string a.space, .string a.raw, .string a.text, .int .i64 a.base, .int .i64 a.pos, .int .i64 a.en, .slice ca na ma], .agg #[.string b.kind, .string b.space, .string b.raw, .string b.text, .int .i64 b.base, .int .i64 b.pos, .int .i64 b.en, .slice cb nb mb]] w (BoolRes true w) := by
  obtain ⟨ak, asp, ar, at_, ab, ap, ae, ac⟩ := a
  obtain ⟨bk, bsp, br, bt, bb, bp, be, bc⟩ := b
  obtain ⟨h1, h2, h3, h4⟩ := h
  simp only at h1 h2 h3 h4
  subst h1 h2 h3 h4
  go_enter Tryz.func14, Tryz.ntmps14
  go_wp2_with fail
  go_ret
  exact ⟨rfl, ((Below.refl _ _).alloc (Nat.le_refl _) _).alloc (by show _ ≤ (w.heap.push _).size; rw [Array.size_push]; omega) _⟩

theorem ext_pre (s : ByteArray) (n : Nat) : (s.extract 0 n).toList = s.data.toList.take n := by
  rw [ByteArray.toList_eq, ByteArray.data_extract, Array.toList_extract, List.extract_eq_take_drop, List.drop_zero, Nat.sub_zero]

theorem begins_no (s : ByteArray) (w : World) (hs : s.size ≤ 2147483647) (h : ∀ r, s.data.toList ≠ 46 :: r) : Calls Tryz.prog 30 #[.string s, .string ⟨#[46]⟩] w fun e w' => e = .returned (.bool false) ∧ w = w' := by
  by_cases h0 : s.size = 0
  · have d1 : decide ((1 : Int) ≤ (s.size : Int)) = false := by simp; omega
    have d2 : ¬ (1 : Int) ≤ (s.size : Int) := by omega
    clear h
    go_enter Tryz.func30, Tryz.ntmps30
    go_wp2_with fail
    go_ret
    exact ⟨rfl, rfl⟩
  · have d1 : (1 : Int) ≤ (s.size : Int) := by omega
    have he : ((s.extract 0 1).toList == [46]) = false := by
      rw [ext_pre, beq_eq_false_iff_ne]
      intro e
      cases hl : s.data.toList with
      | nil => rw [hl] at e; cases e
      | cons c r =>
        rw [hl] at e
        simp only [List.take_succ_cons, List.take_zero, List.cons.injEq, and_true] at e
        exact h r (by rw [hl, e])
    clear h
    go_enter Tryz.func30, Tryz.ntmps30
    go_wp2_with fail
    go_ret
    exact ⟨rfl, rfl⟩

theorem begins_yes (s : ByteArray) (w : World) (hs : s.size ≤ 2147483647) (h : ∃ r, s.data.toList = 46 :: r) : Calls Tryz.prog 30 #[.string s, .string ⟨#[46]⟩] w fun e w' => e = .returned (.bool true) ∧ w = w' := by
  obtain ⟨r, hr⟩ := h
  have hl := len_list s
  rw [hr, List.length_cons] at hl
  have d1 : (1 : Int) ≤ (s.size : Int) := by omega
  have he : ((s.extract 0 1).toList == [46]) = true := by
    rw [ext_pre, hr, beq_iff_eq]; rfl
  clear hr
  go_enter Tryz.func30, Tryz.ntmps30
  go_wp2_with fail
  go_ret
  exact ⟨rfl, rfl⟩

/-- A token that says that a point is there. -/
def Pt (t : IT) : Prop := t.kind.data.toList = [46] ∨ ∃ r, t.raw.data.toList = 46 :: r

end Go.Proofs.YtngofbhlhcalpaaGreatDoor.lexer

namespace Go.Proofs.YtngofbhlhcalpaaGreatDoor.lexer
open Go.RowKit Go.Proofs.YtngofbhlhcalpaaGreatDoor.gen

theorem bel2' {w w1 w2 : World} (h : Below w.heap.size w w1) (k : Below w1.heap.size w1 w2) : Below w.heap.size w w2 := h.trans (k.mono h.size)

theorem TokAt.below {w w' : World} {g i B : Nat} {t : IT} (h : TokAt w g i B t) (hb : Below w.heap.size w w') : TokAt w' g i B t := by
  have hlt : g < w.heap.size := World.block_lt_of_cell? _ _ h.kind
  have key : ∀ o, w'.cell? ⟨g, o, none⟩ = w.cell? ⟨g, o, none⟩ := fun o => hb.cell (p := ⟨g, o, none⟩) hlt
  obtain ⟨ca, cn, cc, h7, h8⟩ := h.coms
  exact ⟨(key _).trans h.kind, (key _).trans h.space, (key _).trans h.raw, (key _).trans h.text, (key _).trans h.base, (key _).trans h.pos, (key _).trans h.en, ca, cn, cc, (key _).trans h7, h8.frm (Frm.ofBelow hb []) (by simp)⟩

/-- The tokens that stand in a row from a place on. -/
def Reads (w : World) (g o : Nat) (ts : List IT) : Prop := ∀ i t, ts[i]? = some t → ∃ B, TokAt w g (o + i * 8) B t
theorem Reads.below {w w' : World} {g o : Nat} {ts : List IT} (h : Reads w g o ts) (hb : Below w.heap.size w w') : Reads w' g o ts := fun i t ht => let ⟨B, h1⟩ := h i t ht; ⟨B, h1.below hb⟩

def Alikes (ts us : List IT) : Prop := ts.length = us.length ∧ ∀ (i : Nat) t u, ts[i]? = some t → us[i]? = some u → Alike t u

set_option maxRecDepth 100000 in
theorem allAlike_nil (ao bo : Option Addr) (c c2 : Nat) (w : World) : Calls Tryz.prog 16 #[.slice ao 0 c, .slice bo 0 c2] w (BoolRes true w) := by
  go_enter Tryz.func16, Tryz.ntmps16
  go_wp2_with fail
  go_loopg [13] 0 (fun g' i wr => wr = w ∧ i = .int .i64 0)
  case atStart => exact ⟨rfl, rfl⟩
  case round =>
    obtain ⟨rfl, rfl⟩ := hrel
    go_wp2_with fail
    go_ret
    exact ⟨rfl, Below.refl _ _⟩

set_option maxRecDepth 100000 in
set_option maxHeartbeats 4000000 in
theorem allAlike_yes (g o g2 o2 n c c2 : Nat) (ts us : List IT) (w : World) (hn : ts.length = n) (hn2 : n ≤ 2147483647) (h1 : Reads w g o ts) (h2 : Reads w g2 o2 us) (ha : Alikes ts us) :
    Calls Tryz.prog 16 #[.slice (some ⟨g, o, none⟩) n c, .slice (some ⟨g2, o2, none⟩) n c2] w (BoolRes true w) := by
  have HNn := Lib.hid hn
  have H1 := Lib.hid h1
  have H2 := Lib.hid h2
  have HA := Lib.hid ha
  clear hn h1 h2 ha
  go_enter Tryz.func16, Tryz.ntmps16
  go_wp2_with fail
  go_loopg [13] n (fun g' i wr => ∃ k : Nat, g' = n - k ∧ i = .int .i64 k ∧ k ≤ n ∧ Hid (Below w.heap.size w wr))
  case atStart => exact ⟨0, rfl, rfl, Nat.zero_le _, Below.refl _ _⟩
  case round =>
    obtain ⟨k, hg, rfl, hk, HB⟩ := hrel
    by_cases hlt : k < n
    · have hkl : k < ts.length := by
        have h3 : ts.length = n := HNn.out
        omega
      have hku : k < us.length := by
        have h3 : ts.length = us.length := HA.out.1
        omega
      obtain ⟨t, hxt⟩ : ∃ t, ts[k]? = some t := ⟨_, List.getElem?_eq_getElem hkl⟩
      obtain ⟨u, hxu⟩ : ∃ u, us[k]? = some u := ⟨_, List.getElem?_eq_getElem hku⟩
      have hal := HA.out.2 k t u hxt hxu
      obtain ⟨B1, hT⟩ := H1.out.below HB.out k t hxt
      obtain ⟨B2, hU⟩ := H2.out.below HB.out k u hxu
      obtain ⟨q0, q1, q2, q3, q4, q5, q6, ca, cn, cc, q7, _⟩ := hT
      obtain ⟨u0, u1, u2, u3, u4, u5, u6, da, dn, dc, u7, _⟩ := hU
      have hi0 : (0 : Int) ≤ (k : Int) := by omega
      have hi1 : (k : Int) < (n : Int) := by omega
      have hkw : IntKind.i64.wrap ((k : Int) + 1) = (k : Int) + 1 := IntWalk.i64_in _ (by omega)
      have HAL := Lib.hid hal
      clear hal hxt hxu
      have hkeep : ∀ w' : World, Below wr.heap.size wr w' → (w'.cell? ⟨g, o + k * 8, none⟩ = some (.string t.kind) ∧ w'.cell? ⟨g, o + k * 8 + 1, none⟩ = some (.string t.space) ∧ w'.cell? ⟨g, o + k * 8 + 2, none⟩ = some (.string t.raw) ∧ w'.cell? ⟨g, o + k * 8 + 3, none⟩ = some (.string t.text) ∧ w'.cell? ⟨g, o + k * 8 + 4, none⟩ = some (.int .i64 t.base) ∧ w'.cell? ⟨g, o + k * 8 + 5, none⟩ = some (.int .i64 t.pos) ∧ w'.cell? ⟨g, o + k * 8 + 6, none⟩ = some (.int .i64 t.en) ∧ w'.cell? ⟨g, o + k * 8 + 7, none⟩ = some (.slice ca cn cc) ∧ w'.cell? ⟨g2, o2 + k * 8, none⟩ = some (.string u.kind) ∧ w'.cell? ⟨g2, o2 + k * 8 + 1, none⟩ = some (.string u.space) ∧ w'.cell? ⟨g2, o2 + k * 8 + 2, none⟩ = some (.string u.raw) ∧ w'.cell? ⟨g2, o2 + k * 8 + 3, none⟩ = some (.string u.text) ∧ w'.cell? ⟨g2, o2 + k * 8 + 4, none⟩ = some (.int .i64 u.base) ∧ w'.cell? ⟨g2, o2 + k * 8 + 5, none⟩ = some (.int .i64 u.pos) ∧ w'.cell? ⟨g2, o2 + k * 8 + 6, none⟩ = some (.int .i64 u.en) ∧ w'.cell? ⟨g2, o2 + k * 8 + 7, none⟩ = some (.slice da dn dc)) := fun w' hb => by
        have hg1 : g < wr.heap.size := World.block_lt_of_cell? _ _ q0
        have hg2 : g2 < wr.heap.size := World.block_lt_of_cell? _ _ u0
        have k1 : ∀ i, w'.cell? ⟨g, i, none⟩ = wr.cell? ⟨g, i, none⟩ := fun i => hb.cell (p := ⟨g, i, none⟩) hg1
        have k2 : ∀ i, w'.cell? ⟨g2, i, none⟩ = wr.cell? ⟨g2, i, none⟩ := fun i => hb.cell (p := ⟨g2, i, none⟩) hg2
        exact ⟨(k1 _).trans q0, (k1 _).trans q1, (k1 _).trans q2, (k1 _).trans q3, (k1 _).trans q4, (k1 _).trans q5, (k1 _).trans q6, (k1 _).trans q7, (k2 _).trans u0, (k2 _).trans u1, (k2 _).trans u2, (k2 _).trans u3, (k2 _).trans u4, (k2 _).trans u5, (k2 _).trans u6, (k2 _).trans u7⟩
      have HKp := Lib.hid hkeep
      have HD := Lib.hid ((Below.refl wr.heap.size wr).drew)
      clear hkeep
      go_wp2_with fail
      go_region_held3 (fun w' => w'.cell? ⟨g, o + k * 8, none⟩ = some (.string t.kind) ∧ w'.cell? ⟨g, o + k * 8 + 1, none⟩ = some (.string t.space) ∧ w'.cell? ⟨g, o + k * 8 + 2, none⟩ = some (.string t.raw) ∧ w'.cell? ⟨g, o + k * 8 + 3, none⟩ = some (.string t.text) ∧ w'.cell? ⟨g, o + k * 8 + 4, none⟩ = some (.int .i64 t.base) ∧ w'.cell? ⟨g, o + k * 8 + 5, none⟩ = some (.int .i64 t.pos) ∧ w'.cell? ⟨g, o + k * 8 + 6, none⟩ = some (.int .i64 t.en) ∧ w'.cell? ⟨g, o + k * 8 + 7, none⟩ = some (.slice ca cn cc) ∧ w'.cell? ⟨g2, o2 + k * 8, none⟩ = some (.string u.kind) ∧ w'.cell? ⟨g2, o2 + k * 8 + 1, none⟩ = some (.string u.space) ∧ w'.cell? ⟨g2, o2 + k * 8 + 2, none⟩ = some (.string u.raw) ∧ w'.cell? ⟨g2, o2 + k * 8 + 3, none⟩ = some (.string u.text) ∧ w'.cell? ⟨g2, o2 + k * 8 + 4, none⟩ = some (.int .i64 u.base) ∧ w'.cell? ⟨g2, o2 + k * 8 + 5, none⟩ = some (.int .i64 u.pos) ∧ w'.cell? ⟨g2, o2 + k * 8 + 6, none⟩ = some (.int .i64 u.en) ∧ w'.cell? ⟨g2, o2 + k * 8 + 7, none⟩ = some (.slice da dn dc)) (first | exact HKp.out _ HD.out | exact HKp.out _ (HD.out.trans (hb5.mono (Nat.le_refl _)))) ((go_at_call 14; refine (alike_yes t u _ _ _ _ _ _ _ HAL.out).mono ?_; rintro e w5 ⟨rfl, hb5⟩))
      have HB5 := Lib.hid (bel2' HB.out (HD.out.trans (hb5.mono (Nat.le_refl _))))
      clear q0 q1 q2 q3 q4 q5 q6 q7 u0 u1 u2 u3 u4 u5 u6 u7
      go_wp2_with fail
      go_roundg (n - (k + 1))
      case measure => omega
      case rel => exact ⟨k + 1, rfl, by go_num, by omega, HB5⟩
    · go_wp2_with fail
      go_ret
      exact ⟨rfl, HB.out⟩

end Go.Proofs.YtngofbhlhcalpaaGreatDoor.lexer

namespace Go.Proofs.YtngofbhlhcalpaaGreatDoor.lexer
open Go.RowKit Go.Proofs.YtngofbhlhcalpaaGreatDoor.gen

theorem bel2 {w w1 w2 : World} (h : Below w.heap.size w w1) (k : Below w1.heap.size w1 w2) : Below w.heap.size w w2 := h.trans (k.mono h.size)

theorem ext_len (s : ByteArray) (a b : Nat) (h : b ≤ s.size) : (s.extract a b).toList.length = b - a := by
  rw [ByteArray.toList_eq, ByteArray.data_extract, Array.toList_extract, List.extract_eq_take_drop, List.length_take, List.length_drop, len_list]
  omega
theorem toList_data (k : ByteArray) : k.toList = k.data.toList := ByteArray.toList_eq k

/-- What is told of a token in memory. -/
theorem elem_facts {s : ByteArray} {o : Option Nat} {n i : Nat} {e : Nat × Nt} (h : Elem 0 s.size o n i e) :
    (((itOf s e).kind.toList == [60, 101, 111, 102, 62]) = false ∧ (itOf s e).raw.toList.isEmpty = false ∧ (o = none → ((i : Int) == (n : Int) - 1) = false)) ∨
    (((itOf s e).kind.toList == [60, 101, 111, 102, 62]) = true ∧ (itOf s e).raw.toList.isEmpty = true ∧ o = none ∧ ((i : Int) == (n : Int) - 1) = true) := by
  obtain ⟨_, h2, h3⟩ := h
  have hl := ext_len s (e.1 + e.2.pre) (e.1 + e.2.len) h2
  rcases h3 with ⟨h4, h5⟩ | ⟨h4, h5, h6⟩
  · left
    refine ⟨?_, ?_, fun ho => ?_⟩
    · rw [beq_eq_false_iff_ne, toList_data]
      exact kind_ne_list h4.2
    · cases e0 : (itOf s e).raw.toList with
      | cons c r => rfl
      | nil =>
        have e0 : (s.extract (e.1 + e.2.pre) (e.1 + e.2.len)).toList = [] := e0
        rw [e0] at hl
        have := h4.1
        unfold Nt.len at hl
        simp at hl
        omega
    · have := h5 ho
      rw [beq_eq_false_iff_ne]; omega
  · right
    refine ⟨?_, ?_, h5, ?_⟩
    · rw [beq_iff_eq, toList_data]
      show e.2.tk.kind.data.toList = _
      rw [h4]; rfl
    · have hz : e.2.len = e.2.pre := by unfold Nt.len; rw [h4]; rfl
      have e0 : (itOf s e).raw.toList = [] := by
        refine List.eq_nil_of_length_eq_zero ?_
        show (s.extract (e.1 + e.2.pre) (e.1 + e.2.len)).toList.length = 0
        rw [hl, hz]; omega
      rw [e0]; rfl
    · rw [beq_iff_eq]; omega

theorem lexAll_elem (s : ByteArray) : (∀ i e, (lexAll s).1[i]? = some e → Elem 0 s.size (lexAll s).2 (lexAll s).1.length i e) ∧
    (∀ o, (lexAll s).2 = some o → o ≤ s.size ∧ 0 < s.size) ∧ ((lexAll s).2 = none → 0 < (lexAll s).1.length) ∧ (lexAll s).1.length ≤ s.size + 1 := by
  have h := lexL_elem _ kNone false s.data.toList 0 (Nat.le_refl _)
  rw [len_list, Nat.zero_add] at h
  exact h

theorem ToksAt.reads {w : World} {base g n cap : Nat} {ts : List IT} (h : ToksAt w base (.slice (some ⟨g, 0, none⟩) n cap) ts) : Reads w g 0 ts := fun i t ht => ⟨base, by rw [Nat.zero_add]; exact h.at_ i t ht⟩
theorem Alikes.refl (ts : List IT) : Alikes ts ts := ⟨rfl, fun i t u h1 h2 => by rw [h1] at h2; cases h2; exact ⟨rfl, rfl, rfl, rfl⟩⟩

end Go.Proofs.YtngofbhlhcalpaaGreatDoor.lexer

namespace Go.Proofs.YtngofbhlhcalpaaGreatDoor.lexer
open Go.RowKit Go.Proofs.YtngofbhlhcalpaaGreatDoor.gen
open Go.Lib (headSpace isSpaceR decodeL)

theorem padded_no (s : ByteArray) (w : World) (hs : s.size ≤ 2147483647) (h : NB s) : Calls Tryz.prog 34 #[.string s] w fun e w' => e = .returned (.string s) ∧ w' = w := by
  go_enter Tryz.func34, Tryz.ntmps34
  go_wp2_with fail
  refine (brittle_no s _ hs h).mono ?_
  rintro e w1 ⟨rfl, rfl⟩
  go_wp2_with fail
  go_ret
  exact ⟨rfl, rfl⟩

theorem blank_step {s : ByteArray} {pos : Nat} (hp : pos < s.size) (h : spc (s.data.toList.drop pos) = s.size - pos) :
    isSpaceR (Utf8.decode s pos).1 = true ∧ pos + (Utf8.decode s pos).2 ≤ s.size ∧ 1 ≤ (Utf8.decode s pos).2 ∧ spc (s.data.toList.drop (pos + (Utf8.decode s pos).2)) = s.size - (pos + (Utf8.decode s pos).2) := by
  have hl : (s.data.toList.drop pos).length = s.size - pos := by rw [List.length_drop, Array.length_toList]; rfl
  have hne : s.data.toList.drop pos ≠ [] := by intro e; rw [e] at hl; simp at hl; omega
  have h0 : ¬ headSpace (s.data.toList.drop pos) = 0 := by intro e; rw [spc_zeroP e] at h; omega
  have h1 := Go.Lib.headSpace_eq _ hne
  have h2 := headSpace_le (s.data.toList.drop pos)
  rw [Go.Lib.decodeL_drop] at h1
  have h3 := spc_succ h0
  cases hi : isSpaceR (Utf8.decode s pos).1 with
  | false => rw [hi] at h1; exact absurd h1 h0
  | true =>
    rw [hi, if_pos rfl] at h1
    rw [h1] at h0 h2 h3
    rw [List.drop_drop] at h3
    exact ⟨rfl, by omega, by omega, by omega⟩

theorem space_cases {r : Nat} (h : isSpaceR r = true) : r = 9 ∨ r = 10 ∨ r = 11 ∨ r = 12 ∨ r = 13 ∨ r = 32 ∨ r = 133 ∨ r = 160 ∨ r = 5760 ∨ r = 8192 ∨ r = 8193 ∨ r = 8194 ∨ r = 8195 ∨ r = 8196 ∨ r = 8197 ∨ r = 8198 ∨ r = 8199 ∨ r = 8200 ∨ r = 8201 ∨ r = 8202 ∨ r = 8232 ∨ r = 8233 ∨ r = 8239 ∨ r = 8287 ∨ r = 12288 := by
  unfold isSpaceR at h
  simp only [Bool.or_eq_true, Bool.and_eq_true, decide_eq_true_eq, beq_iff_eq] at h
  omega

set_option maxRecDepth 100000 in
set_option maxHeartbeats 2000000 in
theorem blank_any (s : ByteArray) (w : World) (h : spc s.data.toList = s.size) : Calls Tryz.prog 23 #[.string s] w (TrueRes w) := by
  have HS := Lib.hid h
  clear h
  go_enter Tryz.func23, Tryz.ntmps23
  go_wp2
  go_loopw [] (fun w' => ∃ pos : Nat, w' = w.iter s pos ∧ pos ≤ s.size ∧ spc (s.data.toList.drop pos) = s.size - pos) (fun w' => s.size - w'.iterPos w.heap.size)
  case atStart => exact ⟨0, rfl, Nat.zero_le _, by rw [List.drop_zero]; exact HS.out⟩
  case round =>
    obtain ⟨pos, rfl, hle, hsp⟩ := hrel
    by_cases hp : pos < s.size
    · obtain ⟨h1, h2, h3, h4⟩ := blank_step hp hsp
      have hnx : ∀ ty, (Instr.next (.pointer (some ⟨w.heap.size, 0, none⟩)) true ty).run Tryz.prog (w.iter s pos) = _ := fun ty => run_next_any w s pos ty hp
      have hr := space_cases h1
      generalize (Utf8.decode s pos).1 = r at hnx hr
      generalize (Utf8.decode s pos).2 = d at hnx h2 h3 h4
      clear h1 hsp
      rcases hr with rfl | rfl | rfl | rfl | rfl | rfl | rfl | rfl | rfl | rfl | rfl | rfl | rfl | rfl | rfl | rfl | rfl | rfl | rfl | rfl | rfl | rfl | rfl | rfl | rfl
      all_goals
        go_wp2
        go_roundw
        case rel => exact ⟨pos + d, rfl, h2, h4⟩
        case measure => simp; omega
    · have hnx : ∀ ty, (Instr.next (.pointer (some ⟨w.heap.size, 0, none⟩)) true ty).run Tryz.prog (w.iter s pos) = _ := fun ty => run_next_end w s pos ty hp
      go_wp2
      go_ret
      exact ⟨rfl, (Below.refl _ _).alloc (Nat.le_refl _) _⟩

end Go.Proofs.YtngofbhlhcalpaaGreatDoor.lexer

namespace Go.Proofs.YtngofbhlhcalpaaGreatDoor.lexer
open Go.RowKit Go.Proofs.YtngofbhlhcalpaaGreatDoor.gen

theorem info_intq : (Tryz.prog.info? 3).map (fun i => (i.zero, i.size, i.bytes)) = some (some (.int .i64 0), 1, 8) := by kernel_rfl

def ints (l : List Nat) : List Value := l.map fun (a : Nat) => Value.int .i64 (a : Int)
theorem ints_len (l : List Nat) : (ints l).length = l.length := by simp [ints]
theorem ints_app (a b : List Nat) : ints (a ++ b) = ints a ++ ints b := by simp [ints]

theorem semis_app (a b : List (Nat × Nt)) : semis (a ++ b) = semis a ++ semis b := by
  induction a with
  | nil => rfl
  | cons e r ih =>
    simp only [List.cons_append, semis]
    split
    · rw [ih]; rfl
    · exact ih
theorem semis_len (l : List (Nat × Nt)) : (semis l).length ≤ l.length := by
  induction l with
  | nil => exact Nat.le_refl _
  | cons e r ih =>
    simp only [semis, List.length_cons]
    split
    · simp only [List.length_cons]; omega
    · omega

def SemRes (L : List (Nat × Nt)) (w : World) (e : Ending) (w' : World) : Prop := ∃ v, e = .returned v ∧ OwnC w' w.heap.size v (ints (semis L)) ∧ Below w.heap.size w w'

set_option maxRecDepth 100000 in
set_option maxHeartbeats 2000000 in
theorem semicolons_any (s : ByteArray) (L : List (Nat × Nt)) (base g cap n : Nat) (w : World) (hn : n = L.length) (hn2 : n ≤ 1048577) (h : ToksAt w base (.slice (some ⟨g, 0, none⟩) n cap) (L.map (itOf s))) : Calls Tryz.prog 22 #[.slice (some ⟨g, 0, none⟩) n cap] w (SemRes L w) := by
  obtain ⟨i0, hi0', hz0, hz1, hz2⟩ := info_parts info_intq
  have HT := Lib.hid h
  have HN := Lib.hid hn
  clear h hn
  go_enter Tryz.func22, Tryz.ntmps22
  go_wp2
  go_loopg [3, 8] n (fun g' v i wr => ∃ k : Nat, g' = n - k ∧ i = .int .i64 k ∧ k ≤ n ∧ Hid (Below w.heap.size w wr) ∧ Hid (OwnC wr w.heap.size v (ints (semis (L.take k)))))
  case atStart => exact ⟨0, rfl, rfl, Nat.zero_le _, Below.refl _ _, OwnC.nil _ _⟩
  case round =>
    obtain ⟨k, hg, rfl, hkn, HB, HO⟩ := hrel
    by_cases hlt' : k < n
    · have hlt : k < L.length := by have := HN.out; omega
      obtain ⟨x, hx⟩ : ∃ x, L[k]? = some x := ⟨_, List.getElem?_eq_getElem hlt⟩
      have hxt : (L.map (itOf s))[k]? = some (itOf s x) := by rw [List.getElem?_map, hx]; rfl
      have hk8 := (HT.out.below HB.out).at_ k _ hxt
      obtain ⟨q0, q1, q2, q3, q4, q5, q6, ca, cn, cc, q7, _⟩ := hk8
      have hi0 : (0 : Int) ≤ (k : Int) := by omega
      have hi1 : (k : Int) < (n : Int) := by omega
      have hkw : IntKind.i64.wrap ((k : Int) + 1) = (k : Int) + 1 := IntWalk.i64_in _ (by omega)
      have htk : L.take (k + 1) = L.take k ++ [x] := by rw [List.take_add_one, hx]; rfl
      clear hx hxt
      have hlen : (semis (L.take k)).length ≤ 1048577 := by
        have h1 := semis_len (L.take k)
        rw [List.length_take] at h1
        omega
      have HB4 := Lib.hid (HB.out.trans ((Below.refl w.heap.size wr).alloc HB.out.size (.cells #[.string (itOf s x).kind, .string (itOf s x).space, .string (itOf s x).raw, .string (itOf s x).text, .int .i64 (itOf s x).base, .int .i64 (itOf s x).pos, .int .i64 (itOf s x).en, .slice ca cn cc] 30)))
      have HO4 := Lib.hid (HO.out.alloc (.cells #[.string (itOf s x).kind, .string (itOf s x).space, .string (itOf s x).raw, .string (itOf s x).text, .int .i64 (itOf s x).base, .int .i64 (itOf s x).pos, .int .i64 (itOf s x).en, .slice ca cn cc] 30))
      have HTk := Lib.hid htk
      cases hsm : isSemi x.2.tk with
      | false =>
        have he : ((itOf s x).kind.toList == [59]) = false := by rw [ByteArray.toList_eq]; exact hsm
        have hS : semis (L.take (k + 1)) = semis (L.take k) := by rw [htk, semis_app]; simp [semis, hsm]
        have HS := Lib.hid hS
        clear hsm htk hS
        go_wp2_with fail
        go_roundg (n - (k + 1))
        case measure => omega
        case rel => exact ⟨k + 1, rfl, by go_num, by omega, HB4, by rw [HS.out]; exact HO4⟩
      | true =>
        have he : ((itOf s x).kind.toList == [59]) = true := by rw [ByteArray.toList_eq]; exact hsm
        have hS : semis (L.take (k + 1)) = semis (L.take k) ++ [atOf x] := by rw [htk, semis_app]; simp [semis, hsm]
        have HS := Lib.hid hS
        clear hsm htk hS
        obtain ⟨W, hW⟩ : ∃ W, W = wr.alloc (.cells #[.string (itOf s x).kind, .string (itOf s x).space, .string (itOf s x).raw, .string (itOf s x).text, .int .i64 (itOf s x).base, .int .i64 (itOf s x).pos, .int .i64 (itOf s x).en, .slice ca cn cc] 30) := ⟨_, rfl⟩
        rw [← hW] at HO4 HB4
        have hO5 : OwnC (W.alloc (.cells #[.int .i64 (itOf s x).pos] 3)) w.heap.size u3 (ints (semis (L.take k))) := HO4.out.alloc _
        have hb5 : Below w.heap.size w (W.alloc (.cells #[.int .i64 (itOf s x).pos] 3)) := HB4.out.alloc HB4.out.size _
        have HB5 := Lib.hid hb5
        have hz5 := hb5.size
        have hcell : ∀ j u, [Value.int .i64 (itOf s x).pos][j]? = some u → (W.alloc (.cells #[.int .i64 (itOf s x).pos] 3)).cell? ((⟨W.heap.size, 0, none⟩ : Addr).add j) = some u := World.news_of_block (cs := #[.int .i64 (itOf s x).pos]) (t := 3) (fr := (0, 0)) (heap_alloc_new W _)
        have hsz : W.heap.size = wr.heap.size + 1 := by rw [hW]; show (wr.heap.push _).size = _; rw [Array.size_push]
        rw [hsz] at hcell
        rw [hW] at hO5 hz5 hcell
        clear hb5
        go_wp2_with (at_builtin; refine wpList_append_ownC _ rfl (.tmp 15) (.tmp 18) 40 rfl w.heap.size 3 i0 (.int .i64 0) 8 Tryz.underlying40 hi0' hz0 hz1 hz2 rfl u3 (semis (L.take k)).length (ints (semis (L.take k))) rfl (ints_len _) hO5 ⟨wr.heap.size + 1, 0, none⟩ 1 1 [.int .i64 (itOf s x).pos] rfl rfl (by decide) hcell (by simp [Value.oneCell']) (by unfold maxLen; omega) (by omega) hz5 ?_)
        intro g2 cap2 w5 hO6 hg6 hor
        rw [hW] at HB5
        have HB6 : Hid (Below w.heap.size w w5) := by
          have h1 : Frm _ w5 u3.ownBlock.toList := Frm.grown hg6 fun b hb => .inl (by rw [hb]; simp)
          exact (((Frm.ofBelow HB5.out []).trans h1) (fun x hx => .inr (hO5.lt x (by simpa using hx)).1)).below
        have HO6 : Hid (OwnC w5 w.heap.size (.slice (some ⟨g2, 0, none⟩) ((semis (L.take k)).length + 1) cap2) (ints (semis (L.take (k + 1))))) := by
          rw [HS.out, ints_app]; exact hO6
        clear hO6 hg6 hor hO5 hz5 hcell
        go_wp2_with fail
        go_roundg (n - (k + 1))
        case measure => omega
        case rel => exact ⟨k + 1, rfl, by go_num, by omega, HB6, HO6⟩
    · obtain rfl : k = n := by omega
      go_wp2_with fail
      go_ret
      refine ⟨_, rfl, ?_, HB.out⟩
      have := HO.out
      rw [HN.out, List.take_length] at this
      exact this

end Go.Proofs.YtngofbhlhcalpaaGreatDoor.lexer

namespace Go.Proofs.YtngofbhlhcalpaaGreatDoor.lexer
open Go.RowKit Go.Proofs.YtngofbhlhcalpaaGreatDoor.gen

def headL : List (Nat × Nt) → Nat
  | [] => 0
  | f :: _ => headOf f

/-- What is to come of the tokens, seen from the lexer. -/
def rest (s : ByteArray) (x : LX) : List (Nat × Nt) × Option Nat := lexL x.kind x.dot (suf s x.p) x.p

theorem next_of_nil (last : ByteArray) (dot : Bool) : next last dot [] = .ok ⟨[], 0, plain kEof 0⟩ := by
  unfold next
  simp only [gap_nil, gapLen, comsLen, Nat.zero_add, Bool.false_eq_true, if_false, List.drop_nil, tokD_nil]

theorem rest_bad {s : ByteArray} {x : LX} {off : Nat} (h : next x.kind x.dot (suf s x.p) = .bad off) : (rest s x).2 = some (x.p + off) := by
  unfold rest; rw [lexL_bad _ h]
theorem rest_eof {s : ByteArray} {x : LX} {t : Nt} (h : next x.kind x.dot (suf s x.p) = .ok t) (ht : t.tk = plain kEof 0) : rest s x = ([(x.p, t)], none) := lexL_eof _ h ht
theorem rest_more {s : ByteArray} {x : LX} {t : Nt} {v : Value} (h : next x.kind x.dot (suf s x.p) = .ok t) (ht : Good t.tk) : rest s x = ((x.p, t) :: (rest s (nextX s x t v)).1, (rest s (nextX s x t v)).2) := by
  unfold rest
  rw [lexL_more _ h ht, suf_drop']
  rfl
theorem rest_ne {s : ByteArray} {x : LX} (h : (rest s x).2 = none) : (rest s x).1 ≠ [] := by
  cases hn : next x.kind x.dot (suf s x.p) with
  | bad o => rw [rest_bad hn] at h; cases h
  | ok t =>
    rcases (next_ok hn).2.2.2.2.2.2 with ⟨hk, _⟩ | ⟨hk, _⟩
    · rw [rest_eof hn hk]; simp
    · rw [rest_more (v := .nilIface) hn hk]; simp

theorem semi_of {s : ByteArray} {x : LX} {t : Nt} {v : Value} : ((nextX s x t v).kind.data.toList == [59]) = isSemi t.tk := rfl

/-- Behind a token that is no semicolon and not the last. -/
theorem cut_more {s : ByteArray} {x : LX} {t : Nt} {v : Value} (first : Nat) (hs : isSemi t.tk = false) (hf : (rest s (nextX s x t v)).2 = none) : cuts first ((x.p, t) :: (rest s (nextX s x t v)).1) = cuts first (rest s (nextX s x t v)).1 := by
  cases hr : (rest s (nextX s x t v)).1 with
  | nil => exact absurd hr (rest_ne hf)
  | cons a b => simp [cuts, hs]
theorem cut_semi {s : ByteArray} {x : LX} {t : Nt} {v : Value} (first : Nat) (hs : isSemi t.tk = true) : cuts first ((x.p, t) :: (rest s (nextX s x t v)).1) = (first, x.p + t.pre) :: cuts (headL (rest s (nextX s x t v)).1) (rest s (nextX s x t v)).1 := by
  simp only [cuts, hs, if_true]
  cases (rest s (nextX s x t v)).1 <;> rfl
theorem cut_eof {p : Nat} {t : Nt} (first : Nat) (ht : t.tk = plain kEof 0) : cuts first [(p, t)] = if p + t.pre = first then [] else [(first, p + t.pre)] := by
  have hs : isSemi t.tk = false := by rw [ht]; rfl
  simp only [cuts, hs, Bool.false_eq_true, if_false, List.isEmpty_nil, if_true]
  rfl
theorem eof_next {s : ByteArray} {x : LX} {t : Nt} {v : Value} (h : next x.kind x.dot (suf s x.p) = .ok t) (ht : t.tk = plain kEof 0) (hp : x.p ≤ s.size) :
    x.p + t.pre = s.size ∧ x.p + t.len = s.size ∧ rest s (nextX s x t v) = ([(s.size, ⟨[], 0, plain kEof 0⟩)], none) := by
  have h1 : x.p + t.pre = s.size := by
    rcases (next_ok h).2.2.2.2.2.2 with ⟨_, h2⟩ | ⟨h2, _⟩
    · rw [h2, suf_len]; omega
    · exact absurd (by rw [ht]; rfl) h2.2
  have h2 : t.len = t.pre := by unfold Nt.len; rw [ht]; rfl
  refine ⟨h1, by omega, ?_⟩
  have h3 : suf s (x.p + t.len) = [] := List.eq_nil_of_length_eq_zero (by rw [suf_len]; omega)
  show lexL t.tk.kind _ (suf s (x.p + t.len)) (x.p + t.len) = _
  rw [h3, lexL_eof _ (next_of_nil _ _) rfl, h2, h1]
theorem cut_eof2 {s : ByteArray} {x : LX} {t : Nt} {v : Value} (first : Nat) (h : next x.kind x.dot (suf s x.p) = .ok t) (ht : t.tk = plain kEof 0) (hp : x.p ≤ s.size) : cuts first [(x.p, t)] = cuts first (rest s (nextX s x t v)).1 := by
  obtain ⟨h1, _, h2⟩ := eof_next (v := v) h ht hp
  rw [h2, cut_eof first ht, h1]
  exact (cut_eof (p := s.size) (t := ⟨[], 0, plain kEof 0⟩) first rfl).symm

def tRS : TypeId := 89
def tPR : TypeId := 87

/-- The statements, in memory. -/
def PtrsAt (s : ByteArray) (w : World) (base : Nat) (v : Value) (l : List (Nat × Nat)) : Prop :=
  ∃ xs : List (Nat × (Nat × Nat)), xs.map (·.2) = l ∧ w.ownsRow base tPR 1 v xs.length (xs.map fun x => .pointer (some ⟨x.1, 0, none⟩)) ∧
    ∀ x ∈ xs, base ≤ x.1 ∧ w.heap[x.1]? = some (.cells #[.int .i64 (x.2.1 : Int), .int .i64 (x.2.2 : Int), .string (s.extract x.2.1 x.2.2)] tRS (0, 0))

theorem PtrsAt.nil (s : ByteArray) (w : World) (base : Nat) : PtrsAt s w base (.slice none 0 0) [] := ⟨[], rfl, World.ownsRow_nil _ _ _ _, fun _ h => by cases h⟩
theorem PtrsAt.frm {s : ByteArray} {w w' : World} {base : Nat} {v : Value} {l : List (Nat × Nat)} {S : List Nat} (h : PtrsAt s w base v l) (hf : Frm w w' S) (hS : ∀ x, x ∈ S → x < base) : PtrsAt s w' base v l := by
  obtain ⟨xs, h1, h2, h3⟩ := h
  refine ⟨xs, h1, ownsRow_frm h2 hf hS, fun x hx => ⟨(h3 x hx).1, ?_⟩⟩
  exact (hf.block _ (block_lt (h3 x hx).2) (fun hm => by have := hS _ hm; have := (h3 x hx).1; omega)).trans (h3 x hx).2
theorem PtrsAt.more {s : ByteArray} {w w' : World} {base b : Nat} {v v' : Value} {r : Nat × Nat} {xs : List (Nat × (Nat × Nat))} (hO : w.ownsRow base tPR 1 v xs.length (xs.map fun x => .pointer (some ⟨x.1, 0, none⟩)))
    (hx : ∀ x ∈ xs, base ≤ x.1 ∧ w.heap[x.1]? = some (.cells #[.int .i64 (x.2.1 : Int), .int .i64 (x.2.2 : Int), .string (s.extract x.2.1 x.2.2)] tRS (0, 0)))
    (hb : base ≤ b) (hc : w.heap[b]? = some (.cells #[.int .i64 (r.1 : Int), .int .i64 (r.2 : Int), .string (s.extract r.1 r.2)] tRS (0, 0))) (hg : w.grownBy w' v.ownBlock)
    (hO' : w'.ownsRow base tPR 1 v' (xs.length + 1) ((xs.map fun x => .pointer (some ⟨x.1, 0, none⟩)) ++ [.pointer (some ⟨b, 0, none⟩)])) : PtrsAt s w' base v' (xs.map (·.2) ++ [r]) := by
  have keep : ∀ (k : Nat) (cs : Array Value), w.heap[k]? = some (.cells cs tRS (0, 0)) → w'.heap[k]? = some (.cells cs tRS (0, 0)) := by
    intro k cs hk
    refine (hg.block k (block_lt hk) fun e => ?_).trans hk
    obtain ⟨cur, h⟩ := ownsRow_type hO k e.symm
    rw [hk] at h
    simp at h
    exact absurd h.2 (by decide)
  refine ⟨xs ++ [(b, r)], by simp, by simpa using hO', fun x hm => ?_⟩
  rcases List.mem_append.1 hm with hm | hm
  · exact ⟨(hx x hm).1, keep _ _ (hx x hm).2⟩
  · simp at hm; subst hm; exact ⟨hb, keep _ _ hc⟩

/-- The reader of statements, in memory. -/
structure SM (s : ByteArray) (w : World) (v : Value) (res : List (Nat × Nat)) (x : LX) (wr : World) : Prop where
  st : St wr (w.heap.size + 1) w.heap.size kNone s x
  env : Env wr (w.heap.size + 1) w.heap.size
  bel : Below w.heap.size w wr
  own : PtrsAt s wr (w.heap.size + 1 + 1) v res
  shape : (v = .slice none 0 0 ∧ res = []) ∨ ∃ g cap, v = .slice (some ⟨g, 0, none⟩) res.length cap ∧ 0 < res.length

theorem SM.read {s : ByteArray} {w wr w2 : World} {v : Value} {res : List (Nat × Nat)} {x y : LX} (h : SM s w v res x wr) (hS : St w2 (w.heap.size + 1) w.heap.size kNone s y) (hF : Frm wr w2 [w.heap.size + 1]) : SM s w v res y w2 :=
  ⟨hS, h.env.frm hF (by simp), ((Frm.ofBelow h.bel []).trans hF (fun x hx => by right; simp at hx; omega)).below, h.own.frm hF (by intro x hx; simp at hx; omega), h.shape⟩

theorem SM.more {s : ByteArray} {w wr w5 : World} {v v' : Value} {xs : List (Nat × (Nat × Nat))} {x : LX} {r : Nat × Nat} {o o2 : Obj} (h : SM s w v (xs.map (·.2)) x wr) (ho : o = .cells #[.int .i64 (r.1 : Int), .int .i64 (r.2 : Int), .string (s.extract r.1 r.2)] tRS)
    (hO : wr.ownsRow (w.heap.size + 1 + 1) tPR 1 v xs.length (xs.map fun x => .pointer (some ⟨x.1, 0, none⟩)))
    (hx : ∀ x ∈ xs, w.heap.size + 1 + 1 ≤ x.1 ∧ wr.heap[x.1]? = some (.cells #[.int .i64 (x.2.1 : Int), .int .i64 (x.2.2 : Int), .string (s.extract x.2.1 x.2.2)] tRS (0, 0)))
    (hg : ((wr.alloc o).alloc o2).grownBy w5 v.ownBlock)
    (hO' : w5.ownsRow (w.heap.size + 1 + 1) tPR 1 v' (xs.length + 1) ((xs.map fun x => .pointer (some ⟨x.1, 0, none⟩)) ++ [.pointer (some ⟨wr.heap.size, 0, none⟩)])) : SM s w v' (xs.map (·.2) ++ [r]) x w5 := by
  have hlb := block_lt h.st.lex
  have e1 : ∀ o, (wr.alloc o).heap.size = wr.heap.size + 1 := fun o => by show (wr.heap.push _).size = _; rw [Array.size_push]
  have hF3 : Frm wr ((wr.alloc o).alloc o2) [] := ((Frm.refl wr []).alloc o).alloc o2
  have hO3 : ((wr.alloc o).alloc o2).ownsRow (w.heap.size + 1 + 1) tPR 1 v xs.length (xs.map fun x => .pointer (some ⟨x.1, 0, none⟩)) := (hO.alloc _).alloc _
  have hF5 : Frm ((wr.alloc o).alloc o2) w5 v.ownBlock.toList := Frm.grown (S := v.ownBlock.toList) hg (fun b hb => .inl (by rw [hb]; simp))
  have hrow : ∀ y, y ∈ v.ownBlock.toList → w.heap.size + 1 + 1 ≤ y := fun y hy => (hO.lt y (by simpa using hy)).1
  have hS3 := h.st.frm hF3
  have hE3 := h.env.frm hF3 (by simp)
  have hb3 : Below w.heap.size w ((wr.alloc o).alloc o2) := h.bel.trans (hF3.below.mono h.bel.size)
  refine ⟨⟨(hF5.block _ (block_lt hS3.lex) (fun hm => by have := hrow _ hm; omega)).trans hS3.lex, (hF5.block _ (block_lt hS3.file) (fun hm => by have := hrow _ hm; omega)).trans hS3.file, hS3.ne, hS3.sz, hS3.pz⟩, ?_, ?_, ?_, ?_⟩
  · obtain ⟨W0, a1, a2, a3, a4⟩ := hE3
    exact ⟨W0, a1, a2.trans (hF5.belowOf (fun x hx => by have := hrow x hx; omega) a2.size), a3, a4⟩
  · exact ((Frm.ofBelow hb3 []).trans hF5 (fun x hx => by right; have := hrow x hx; omega)).below
  · refine PtrsAt.more hO3 (fun y hy => ⟨(hx y hy).1, ?_⟩) (b := wr.heap.size) (by omega) ?_ hg hO'
    · exact (hF3.block _ (block_lt (hx y hy).2) (by simp)).trans (hx y hy).2
    · rw [Below.heap_alloc _ _ _ (by rw [e1]; omega), heap_alloc_new, ho]
  · right
    rcases hO'.2 with ⟨_, h0⟩ | ⟨g', cap', cur, h1, _⟩
    · omega
    · exact ⟨g', cap', by rw [h1]; simp, by simp⟩

/-- Behind a token that is no semicolon. -/
structure SA (s : ByteArray) (w : World) (v : Value) (res : List (Nat × Nat)) (first : Nat) (x : LX) (wr : World) : Prop where
  mem : SM s w v res x wr
  lex2 : (lexAll s).2 = (rest s x).2
  kind : (x.kind.data.toList == [59]) = false
  fp : first ≤ x.p
  num : res.length ≤ x.p
  cut : (lexAll s).2 = none → cuts 0 (lexAll s).1 = res ++ cuts first (rest s x).1
/-- Behind a semicolon. -/
structure SB (s : ByteArray) (w : World) (v : Value) (res : List (Nat × Nat)) (first a : Nat) (x : LX) (wr : World) : Prop where
  mem : SM s w v res x wr
  lex2 : (lexAll s).2 = (rest s x).2
  kind : (x.kind.data.toList == [59]) = true
  ps : x.ps = (a : Int)
  fp : first ≤ a ∧ a + 1 ≤ x.p
  num : res.length + 1 ≤ x.p
  cut : (lexAll s).2 = none → cuts 0 (lexAll s).1 = res ++ (first, a) :: cuts (headL (rest s x).1) (rest s x).1

theorem SA.start {s : ByteArray} {w wr : World} (h : SM s w (.slice none 0 0) [] newX wr) : SA s w (.slice none 0 0) [] 0 newX wr :=
  ⟨h, rfl, rfl, Nat.zero_le _, Nat.zero_le _, fun _ => rfl⟩

/-- A token has been read behind which there is more. -/
theorem SA.goA {s : ByteArray} {w w2 : World} {v cv : Value} {res : List (Nat × Nat)} {first : Nat} {x : LX} {t : Nt} (hn : next x.kind x.dot (suf s x.p) = .ok t) (hg : Good t.tk) (hs : isSemi t.tk = false)
    (hm : SM s w v res (nextX s x t cv) w2) (h2 : (lexAll s).2 = (rest s x).2) (hf : first ≤ x.p + t.pre) (hu : res.length ≤ x.p + t.len)
    (hc : (lexAll s).2 = none → cuts 0 (lexAll s).1 = res ++ cuts first (rest s x).1) : SA s w v res first (nextX s x t cv) w2 := by
  have e := rest_more (v := cv) hn hg
  have h2' : (lexAll s).2 = (rest s (nextX s x t cv)).2 := by rw [h2, e]
  refine ⟨hm, h2', by rw [semi_of]; exact hs, ?_, hu, fun h0 => ?_⟩
  · show first ≤ x.p + t.len
    unfold Nt.len; omega
  · rw [hc h0, e, cut_more first hs (by rw [← h2']; exact h0)]
theorem SA.goB {s : ByteArray} {w w2 : World} {v cv : Value} {res : List (Nat × Nat)} {first : Nat} {x : LX} {t : Nt} (hn : next x.kind x.dot (suf s x.p) = .ok t) (hg : Good t.tk) (hs : isSemi t.tk = true)
    (hm : SM s w v res (nextX s x t cv) w2) (h2 : (lexAll s).2 = (rest s x).2) (hf : first ≤ x.p + t.pre) (hu : res.length ≤ x.p)
    (hc : (lexAll s).2 = none → cuts 0 (lexAll s).1 = res ++ cuts first (rest s x).1) : SB s w v res first (x.p + t.pre) (nextX s x t cv) w2 := by
  have e := rest_more (v := cv) hn hg
  have hpos := hg.1
  refine ⟨hm, by rw [h2, e], by rw [semi_of]; exact hs, rfl, ⟨hf, ?_⟩, ?_, fun h0 => ?_⟩
  · show x.p + t.pre + 1 ≤ x.p + t.len
    unfold Nt.len; omega
  · show res.length + 1 ≤ x.p + t.len
    unfold Nt.len; omega
  · rw [hc h0, e, cut_semi first hs]
/-- The end behind a semicolon. -/
theorem SA.goC {s : ByteArray} {w w2 : World} {v cv : Value} {res : List (Nat × Nat)} {first : Nat} {x : LX} {t : Nt} (hn : next x.kind x.dot (suf s x.p) = .ok t) (hg : t.tk = plain kEof 0) (hp : x.p ≤ s.size)
    (hm : SM s w v res (nextX s x t cv) w2) (h2 : (lexAll s).2 = (rest s x).2) (hf : first ≤ x.p + t.pre) (hu : res.length ≤ x.p)
    (hc : (lexAll s).2 = none → cuts 0 (lexAll s).1 = res ++ cuts first (rest s x).1) : SA s w v res first (nextX s x t cv) w2 := by
  obtain ⟨e1, e2, e3⟩ := eof_next (v := cv) hn hg hp
  have e := rest_eof hn hg
  refine ⟨hm, by rw [h2, e, e3], ?_, ?_, ?_, fun h0 => ?_⟩
  · rw [semi_of, hg]; rfl
  · show first ≤ x.p + t.len
    omega
  · show res.length ≤ x.p + t.len
    omega
  · rw [hc h0, e, cut_eof2 (v := cv) first hn hg hp]

/-- What SplitRawStatements gives. -/
def SplRes (s : ByteArray) (w : World) (e : Ending) (w' : World) : Prop :=
  ((lexAll s).2 = none ∧ ∃ v, e = .returned (.tuple #[v, .nilIface]) ∧ PtrsAt s w' w.heap.size v (orOne (cuts 0 (lexAll s).1)) ∧ Below w.heap.size w w') ∨
  ((lexAll s).2.isSome = true ∧ ∃ t p, e = .returned (.tuple #[.slice none 0 0, .iface t p]) ∧ Below w.heap.size w w')

theorem PtrsAt.le {s : ByteArray} {w : World} {base base' : Nat} {v : Value} {l : List (Nat × Nat)} (h : PtrsAt s w base v l) (hb : base' ≤ base) : PtrsAt s w base' v l := by
  obtain ⟨xs, h1, ⟨h2, h4⟩, h3⟩ := h
  refine ⟨xs, h1, ⟨h2, ?_⟩, fun x hx => ⟨Nat.le_trans hb (h3 x hx).1, (h3 x hx).2⟩⟩
  rcases h4 with h4 | ⟨g, cap, cur, k1, k2, k3⟩
  · exact .inl h4
  · exact .inr ⟨g, cap, cur, k1, by omega, k3⟩

theorem SM.done {s : ByteArray} {w wr : World} {v : Value} {res : List (Nat × Nat)} {x : LX} (h : SM s w v res x wr) (h0 : 0 < res.length) (hn : (lexAll s).2 = none) (hc : cuts 0 (lexAll s).1 = res) : SplRes s w (.returned (.tuple #[v, .nilIface])) wr := by
  refine .inl ⟨hn, v, rfl, ?_, h.bel⟩
  have : orOne res = res := by unfold orOne; cases res with
    | nil => simp at h0
    | cons a b => rfl
  rw [hc, this]
  exact h.own.le (by omega)

end Go.Proofs.YtngofbhlhcalpaaGreatDoor.lexer

namespace Go.Proofs.YtngofbhlhcalpaaGreatDoor.lexer
open Go.RowKit Go.Proofs.YtngofbhlhcalpaaGreatDoor.gen

theorem infoPR : (Tryz.prog.info? 87).map (fun i => (i.zero, i.size, i.bytes)) = some (some (.pointer none), 1, 8) := by kernel_rfl

theorem SM.start (s : ByteArray) (w : World) (hs : s.size ≤ 1048576) (hc : Ctx w) : SM s w (.slice none 0 0) [] newX ((w.alloc (.cells #[.string kNone, .string s, .slice none 0 0] 71)).alloc (.cells (newX.cells w.heap.size) 63)) := by
  have hb : Below w.heap.size w ((w.alloc (.cells #[.string kNone, .string s, .slice none 0 0] 71)).alloc (.cells (newX.cells w.heap.size) 63)) := ((Below.refl _ _).alloc (Nat.le_refl _) _).alloc (by show _ ≤ (w.heap.push _).size; rw [Array.size_push]; omega) _
  have e1 : ∀ o, (w.alloc o).heap.size = w.heap.size + 1 := fun o => by show (w.heap.push _).size = _; rw [Array.size_push]
  refine ⟨⟨?_, ?_, by omega, by omega, Nat.zero_le _⟩, ⟨w, hc.tabs, hb, by omega, by omega⟩, hb, PtrsAt.nil _ _ _, .inl ⟨rfl, rfl⟩⟩
  · have := heap_alloc_new (w.alloc (.cells #[.string kNone, .string s, .slice none 0 0] 71)) (.cells (newX.cells w.heap.size) 63)
    rw [e1] at this
    exact this
  · exact (Below.heap_alloc _ _ _ (by rw [e1]; omega)).trans (heap_alloc_new w _)

theorem grown_undrew {w w' : World} {row : Option Nat} (h : w.drew.grownBy w' row) : w.grownBy w' row := ⟨h.os, h.tape, h.output, h.size, h.block⟩
theorem SM.drew {s : ByteArray} {w wr : World} {v : Value} {res : List (Nat × Nat)} {x : LX} (h : SM s w v res x wr) : SM s w v res x wr.drew :=
  h.read ⟨h.st.lex, h.st.file, h.st.ne, h.st.sz, h.st.pz⟩ (Frm.refl _ _).drew
theorem extract_none (s : ByteArray) : s.extract 0 0 = ⟨#[]⟩ := by
  apply ByteArray.ext
  simp
theorem SM.one {s : ByteArray} {w wr : World} {v : Value} {x : LX} (h : SM s w v [] x wr) (hn : (lexAll s).2 = none) (hc : cuts 0 (lexAll s).1 = []) :
    SplRes s w (.returned (.tuple #[.slice (some ⟨wr.heap.size + 1, 0, none⟩) 1 1, .nilIface])) ((wr.alloc (.cells #[.int .i64 0, .int .i64 0, .string ⟨#[]⟩] tRS)).alloc (.cells #[.pointer (some ⟨wr.heap.size, 0, none⟩)] tPR)) := by
  have e1 : ∀ o, (wr.alloc o).heap.size = wr.heap.size + 1 := fun o => by show (wr.heap.push _).size = _; rw [Array.size_push]
  have hz := h.bel.size
  refine .inl ⟨hn, _, rfl, ?_, (h.bel.alloc hz _).alloc (by rw [e1]; omega) _⟩
  rw [hc]
  refine ⟨[(wr.heap.size, (0, 0))], rfl, ?_, fun y hy => ?_⟩
  · have := World.ownsRow_lit (base := w.heap.size) (size := 1) (e := tPR) (wr.alloc (.cells #[.int .i64 0, .int .i64 0, .string ⟨#[]⟩] tRS)) #[.pointer (some ⟨wr.heap.size, 0, none⟩)] 1 (by rw [e1]; omega) (by decide) rfl
    rw [e1] at this
    exact this
  · simp at hy; subst hy
    refine ⟨hz, ?_⟩
    rw [Below.heap_alloc _ _ _ (by rw [e1]; show wr.heap.size < _; omega), heap_alloc_new, extract_none]
    rfl


set_option maxRecDepth 100000 in
set_option maxHeartbeats 4000000 in
theorem splitRaw_any (s : ByteArray) (w : World) (hs : s.size ≤ 1048576) (hN : NB s) (hc : Ctx w) : Calls Tryz.prog 40 #[.string kNone, .string s] w (SplRes s w) := by
  obtain ⟨i0, hi0, hz0, hz1, hz2⟩ := info_parts infoPR
  have HM0 := Lib.hid (SA.start (SM.start s w hs hc))
  have HN := Lib.hid hN
  clear hc hN
  go_enter Tryz.func40, Tryz.ntmps40
  go_wp2_with fail
  go_loopg [7, 8] (2 * s.size) (fun g v i wr => ∃ (x : LX) (res : List (Nat × Nat)) (first : Nat), i = .int .i64 (first : Int) ∧ ((g = 2 * (s.size - x.p) ∧ Hid (SA s w v res first x wr)) ∨ (∃ a, g = 2 * (s.size - x.p) + 1 ∧ Hid (SB s w v res first a x wr))))
  case atStart => exact ⟨newX, [], 0, rfl, .inl ⟨rfl, HM0⟩⟩
  case round =>
    obtain ⟨x, res, first, rfl, (⟨hg, HI⟩ | ⟨a, hg, HI⟩)⟩ := hrel
    case inl =>
      have c1 : wr.cell? ⟨w.heap.size + 1, 1, none⟩ = some (.string x.kind) := block_cell HI.out.mem.st.lex 1
      have he : (x.kind.toList == [59]) = false := by rw [ByteArray.toList_eq]; exact HI.out.kind
      have hpz : x.p ≤ s.size := HI.out.mem.st.pz
      have hfp := HI.out.fp
      have hnum := HI.out.num
      go_wp2_with fail
      refine (nextToken_any _ _ _ s x _ hs HI.out.mem.env HI.out.mem.st (.inl HN.out)).mono ?_
      intro e w2 hres
      rcases hres with ⟨t, cv0, ho, rfl, hS2, hF2, hC2⟩ | ⟨off, eb, ho, rfl, hE2, hF2⟩
      case inr =>
        have HO := Lib.hid ho
        have HB2 := Lib.hid ((Frm.ofBelow HI.out.mem.bel []).trans hF2 (fun x hx => by right; simp at hx; omega)).below
        clear ho hE2 hF2
        go_wp2_with fail
        go_ret2
        exact .inr ⟨by rw [HI.out.lex2, rest_bad HO.out]; rfl, _, _, rfl, HB2.out⟩
      case inl =>
        obtain ⟨ca, cn, cc, rfl⟩ : ∃ ca cn cc, cv0 = .slice ca cn cc := by
          rcases hC2.2 with ⟨h9, _⟩ | ⟨g', cap', cur, h9, _⟩
          · exact ⟨_, _, _, h9⟩
          · exact ⟨_, _, _, h9⟩
        have HO := Lib.hid ho
        have HM2 := Lib.hid (HI.out.mem.read hS2 hF2)
        have hlx := hS2.lex
        have k1 : w2.cell? ⟨w.heap.size + 1, 1, none⟩ = some (.string t.tk.kind) := block_cell hlx 1
        have k7 : w2.cell? ⟨w.heap.size + 1, 7, none⟩ = some (.int .i64 ((x.p + t.pre : Nat) : Int)) := block_cell hlx 7
        obtain ⟨a, ha⟩ : ∃ a, x.p + t.pre = a := ⟨_, rfl⟩
        rw [ha] at k7
        clear ho hS2 hF2 hC2 hlx
        rcases (next_ok HO.out).2.2.2.2.2.2 with ⟨hk, _⟩ | ⟨hk, _⟩
        · have he2 : (t.tk.kind.toList == [60, 101, 111, 102, 62]) = true := by
            rw [beq_iff_eq, hk, ByteArray.toList_eq]; rfl
          obtain ⟨q1, q2, q3⟩ := eof_next (v := .nilIface) HO.out hk hpz
          have HK := Lib.hid hk
          have hre := rest_eof HO.out hk
          have HN2 : Hid ((lexAll s).2 = none) := by show _ = none; rw [HI.out.lex2, hre]
          have HCut : Hid (cuts 0 (lexAll s).1 = res ++ if a = first then [] else [(first, a)]) := by
            show _ = _
            rw [HI.out.cut HN2.out, hre, cut_eof first hk, ha]
          rw [ha] at q1
          have HQ1 := Lib.hid q1
          have q4 : first ≤ a := by omega
          have q5 : a ≤ s.size := by omega
          clear q1 q2 hre q3 hk
          by_cases hq : a = first
          · have k8 : (a : Int) = (first : Int) := by omega
            rw [if_pos hq] at HCut
            rcases HI.out.mem.shape with ⟨rfl, rfl⟩ | ⟨g2, cap2, rfl, hr0⟩
            · go_wp2_with fail
              go_ret2
              exact SM.one HM2.out HN2.out HCut.out
            · obtain ⟨n, hn⟩ : ∃ n, res.length = n := ⟨_, rfl⟩
              rw [hn] at hr0 HM2
              have hn0 : (0 : Int) < (n : Int) := by omega
              have HDn : Hid (SplRes s w (.returned (.tuple #[.slice (some ⟨g2, 0, none⟩) n cap2, .nilIface])) w2) := SM.done HM2.out (by omega) HN2.out (by rw [HCut.out, List.append_nil])
              clear HI HM2 HCut
              try rw [hn]
              go_wp2_with fail
              go_ret2
              exact HDn.out
          · have k8 : ((a : Int) == (first : Int)) = false := by rw [beq_eq_false_iff_ne]; omega
            rw [if_neg hq] at HCut
            have d0 : (0 : Int) ≤ (first : Int) := by omega
            have d1 : (first : Int) ≤ (a : Int) := by omega
            have d2 : (a : Int) ≤ (s.size : Int) := by omega
            have d1n : first ≤ a := by omega
            have d2n : a ≤ s.size := by omega
            have hMd := HM2.out
            obtain ⟨xs, hxs, hO, hxb⟩ := hMd.own
            subst hxs
            have hlen : xs.length ≤ 1048576 := by
              have h1 := hnum
              rw [List.length_map] at h1
              omega
            have e1 : ∀ o, (w2.alloc o).heap.size = w2.heap.size + 1 := fun o => by show (w2.heap.push _).size = _; rw [Array.size_push]
            have hzz := hMd.bel.size
            have hlb := block_lt hMd.st.lex
            have hO3 : ((w2.alloc (.cells #[.int .i64 (first : Int), .int .i64 (a : Int), .string (s.extract first a)] 89)).alloc (.cells #[.pointer (some ⟨w2.heap.size, 0, none⟩)] 87)).drew.ownsRow (w.heap.size + 1 + 1) 87 1 u7 xs.length (xs.map fun x => .pointer (some ⟨x.1, 0, none⟩)) := (World.ownsRow.alloc hO _).alloc _
            have hcell : ∀ j u, [Value.pointer (some ⟨w2.heap.size, 0, none⟩)][j]? = some u → ((w2.alloc (.cells #[.int .i64 (first : Int), .int .i64 (a : Int), .string (s.extract first a)] 89)).alloc (.cells #[.pointer (some ⟨w2.heap.size, 0, none⟩)] 87)).drew.cell? ((⟨w2.heap.size + 1, 0, none⟩ : Addr).add j) = some u := World.news_of_block (cs := #[.pointer (some ⟨w2.heap.size, 0, none⟩)]) (t := 87) (fr := (0, 0)) (by have := heap_alloc_new (w2.alloc (.cells #[.int .i64 (first : Int), .int .i64 (a : Int), .string (s.extract first a)] 89)) (.cells #[.pointer (some ⟨w2.heap.size, 0, none⟩)] 87); rw [e1] at this; exact this)
            have hbase : w.heap.size + 1 + 1 ≤ ((w2.alloc (.cells #[.int .i64 (first : Int), .int .i64 (a : Int), .string (s.extract first a)] 89)).alloc (.cells #[.pointer (some ⟨w2.heap.size, 0, none⟩)] 87)).drew.heap.size := by
              show _ ≤ ((w2.heap.push _).push _).size
              rw [Array.size_push, Array.size_push]; omega
            have hk0 : w2.drew.cell? ⟨w.heap.size + 1, 7, none⟩ = some (.int .i64 (a : Int)) := k7
            have hk1 : ∀ o, (w2.alloc o).drew.cell? ⟨w.heap.size + 1, 7, none⟩ = some (.int .i64 (a : Int)) := fun o => (World.cell?_of_block (Below.heap_alloc w2 o _ (by show w.heap.size + 1 < _; omega))).trans k7
            have hk2 : ∀ o o2, ((w2.alloc o).alloc o2).drew.cell? ⟨w.heap.size + 1, 7, none⟩ = some (.int .i64 (a : Int)) := fun o o2 => (World.cell?_of_block (Below.heap_alloc (w2.alloc o) o2 _ (by rw [e1]; show w.heap.size + 1 < _; omega))).trans (hk1 o)
            have hrow : ∀ y, (u7).ownBlock = some y → y ≠ w.heap.size + 1 := fun y hy => by have := (hO.lt y hy).1; omega
            have HMd := Lib.hid hMd
            have HO1 := Lib.hid hO
            have HXB := Lib.hid hxb
            have HK1 := Lib.hid hk1
            have HK2 := Lib.hid hk2
            have HRow := Lib.hid hrow
            clear hMd hO hxb hk1 hk2 hrow e1
            go_wp2_with fail
            go_region_held3 (fun w' => w'.cell? ⟨w.heap.size + 1, 7, none⟩ = some (.int .i64 (a : Int))) (first | exact hk0 | exact HK1.out _ | exact HK2.out _ _ | exact (hgrow.cell_far _ (by simp; omega) (by intro e; exact HRow.out _ e.symm rfl)).trans (HK2.out _ _)) ((refine step_append_lies _ (by rfl) _ _ _ (by rfl) (w.heap.size + 1 + 1) 87 i0 _ 1 8 Tryz.underlying84 hi0 hz0 hz1 hz2 rfl (by omega) u7 xs.length (xs.map fun x => .pointer (some ⟨x.1, 0, none⟩)) (by rfl) hO3 ⟨w2.heap.size + 1, 0, none⟩ 1 1 [.pointer (some ⟨w2.heap.size, 0, none⟩)] (by rfl) (by rfl) hcell (by simp [Value.oneCell']) (by omega) (by unfold maxLen; omega) (by omega) hbase (w2.heap.size + 1 + 1) (by simp) ?_; intro g' cap' w5 hown1 hgrow hat hlt))
            have HM5 : Hid (SM s w (.slice (some ⟨g', 0, none⟩) (xs.length + 1) cap') (xs.map (·.2) ++ [(first, a)]) _ w5) := SM.more (r := (first, a)) HMd.out rfl HO1.out HXB.out (grown_undrew hgrow) hown1
            obtain ⟨n, hn⟩ : ∃ n, xs.length + 1 = n := ⟨_, rfl⟩
            rw [hn] at HM5 ⊢
            have hn0 : (0 : Int) < (n : Int) := by omega
            clear hO3 hcell hbase hown1 hgrow hat hlt
            have HDn := Lib.hid (SM.done HM5.out (by simp) HN2.out HCut.out)
            go_wp2_with fail
            go_ret2
            exact HDn.out
        · have he2 : (t.tk.kind.toList == [60, 101, 111, 102, 62]) = false := by
            rw [beq_eq_false_iff_ne, ByteArray.toList_eq]; exact kind_ne_list hk.2
          have hn1 := hk.1
          have hn2 := (next_ok HO.out).2.2.2.2.2.1
          rw [suf_len] at hn2
          have hln : t.len = t.pre + t.tk.n := rfl
          have HK := Lib.hid hk
          clear hk
          cases hsm : isSemi t.tk with
          | false =>
            have HA2 := Lib.hid (SA.goA (cv := .slice ca cn cc) HO.out HK.out hsm HM2.out HI.out.lex2 (by omega) (by omega) HI.out.cut)
            clear hsm
            go_wp2_with fail
            go_roundg (2 * (s.size - (x.p + t.len)))
            case measure => omega
            case rel => exact ⟨_, _, _, rfl, .inl ⟨rfl, HA2⟩⟩
          | true =>
            have HA2 := Lib.hid (SA.goB (cv := .slice ca cn cc) HO.out HK.out hsm HM2.out HI.out.lex2 (by omega) (by omega) HI.out.cut)
            clear hsm
            go_wp2_with fail
            go_roundg (2 * (s.size - (x.p + t.len)) + 1)
            case measure => omega
            case rel => exact ⟨_, _, _, rfl, .inr ⟨_, rfl, HA2⟩⟩
    case inr =>
      have c1 : wr.cell? ⟨w.heap.size + 1, 1, none⟩ = some (.string x.kind) := block_cell HI.out.mem.st.lex 1
      have he : (x.kind.toList == [59]) = true := by rw [ByteArray.toList_eq]; exact HI.out.kind
      have k7 : wr.cell? ⟨w.heap.size + 1, 7, none⟩ = some (.int .i64 (a : Int)) := by rw [← HI.out.ps]; exact block_cell HI.out.mem.st.lex 7
      have hpz : x.p ≤ s.size := HI.out.mem.st.pz
      obtain ⟨hfp, hfp2⟩ := HI.out.fp
      have hnum' := HI.out.num
      have hnum : res.length ≤ 1048576 := by omega
      have HMa := Lib.hid HI.out.mem
      have d0 : (0 : Int) ≤ (first : Int) := by omega
      have d1 : (first : Int) ≤ (a : Int) := by omega
      have d2 : (a : Int) ≤ (s.size : Int) := by omega
      have d1n : first ≤ a := by omega
      have d2n : a ≤ s.size := by omega
      have hMd := HMa.out
      obtain ⟨xs, hxs, hO, hxb⟩ := hMd.own
      subst hxs
      have hlen : xs.length ≤ 1048576 := by
        have h1 := hnum
        rw [List.length_map] at h1
        omega
      have e1 : ∀ o, (wr.alloc o).heap.size = wr.heap.size + 1 := fun o => by show (wr.heap.push _).size = _; rw [Array.size_push]
      have hzz := hMd.bel.size
      have hlb := block_lt hMd.st.lex
      have hO3 : ((wr.alloc (.cells #[.int .i64 (first : Int), .int .i64 (a : Int), .string (s.extract first a)] 89)).alloc (.cells #[.pointer (some ⟨wr.heap.size, 0, none⟩)] 87)).drew.ownsRow (w.heap.size + 1 + 1) 87 1 u7 xs.length (xs.map fun x => .pointer (some ⟨x.1, 0, none⟩)) := (World.ownsRow.alloc hO _).alloc _
      have hcell : ∀ j u, [Value.pointer (some ⟨wr.heap.size, 0, none⟩)][j]? = some u → ((wr.alloc (.cells #[.int .i64 (first : Int), .int .i64 (a : Int), .string (s.extract first a)] 89)).alloc (.cells #[.pointer (some ⟨wr.heap.size, 0, none⟩)] 87)).drew.cell? ((⟨wr.heap.size + 1, 0, none⟩ : Addr).add j) = some u := World.news_of_block (cs := #[.pointer (some ⟨wr.heap.size, 0, none⟩)]) (t := 87) (fr := (0, 0)) (by have := heap_alloc_new (wr.alloc (.cells #[.int .i64 (first : Int), .int .i64 (a : Int), .string (s.extract first a)] 89)) (.cells #[.pointer (some ⟨wr.heap.size, 0, none⟩)] 87); rw [e1] at this; exact this)
      have hbase : w.heap.size + 1 + 1 ≤ ((wr.alloc (.cells #[.int .i64 (first : Int), .int .i64 (a : Int), .string (s.extract first a)] 89)).alloc (.cells #[.pointer (some ⟨wr.heap.size, 0, none⟩)] 87)).drew.heap.size := by
        show _ ≤ ((wr.heap.push _).push _).size
        rw [Array.size_push, Array.size_push]; omega
      have hk0 : wr.drew.cell? ⟨w.heap.size + 1, 7, none⟩ = some (.int .i64 (a : Int)) := k7
      have hk1 : ∀ o, (wr.alloc o).drew.cell? ⟨w.heap.size + 1, 7, none⟩ = some (.int .i64 (a : Int)) := fun o => (World.cell?_of_block (Below.heap_alloc wr o _ (by show w.heap.size + 1 < _; omega))).trans k7
      have hk2 : ∀ o o2, ((wr.alloc o).alloc o2).drew.cell? ⟨w.heap.size + 1, 7, none⟩ = some (.int .i64 (a : Int)) := fun o o2 => (World.cell?_of_block (Below.heap_alloc (wr.alloc o) o2 _ (by rw [e1]; show w.heap.size + 1 < _; omega))).trans (hk1 o)
      have hrow : ∀ y, (u7).ownBlock = some y → y ≠ w.heap.size + 1 := fun y hy => by have := (hO.lt y hy).1; omega
      have HMd := Lib.hid hMd
      have HO1 := Lib.hid hO
      have HXB := Lib.hid hxb
      have HK1 := Lib.hid hk1
      have HK2 := Lib.hid hk2
      have HRow := Lib.hid hrow
      clear hMd hO hxb hk1 hk2 hrow e1
      go_wp2_with fail
      go_region_held3 (fun w' => w'.cell? ⟨w.heap.size + 1, 7, none⟩ = some (.int .i64 (a : Int))) (first | exact hk0 | exact HK1.out _ | exact HK2.out _ _ | exact (hgrow.cell_far _ (by simp; omega) (by intro e; exact HRow.out _ e.symm rfl)).trans (HK2.out _ _)) ((refine step_append_lies _ (by rfl) _ _ _ (by rfl) (w.heap.size + 1 + 1) 87 i0 _ 1 8 Tryz.underlying84 hi0 hz0 hz1 hz2 rfl (by omega) u7 xs.length (xs.map fun x => .pointer (some ⟨x.1, 0, none⟩)) (by rfl) hO3 ⟨wr.heap.size + 1, 0, none⟩ 1 1 [.pointer (some ⟨wr.heap.size, 0, none⟩)] (by rfl) (by rfl) hcell (by simp [Value.oneCell']) (by omega) (by unfold maxLen; omega) (by omega) hbase (wr.heap.size + 1 + 1) (by simp) ?_; intro g' cap' w5 hown1 hgrow hat hlt))
      have HM5 : Hid (SM s w (.slice (some ⟨g', 0, none⟩) (xs.length + 1) cap') (xs.map (·.2) ++ [(first, a)]) _ w5) := SM.more (r := (first, a)) HMd.out rfl HO1.out HXB.out (grown_undrew hgrow) hown1
      obtain ⟨n, hn⟩ : ∃ n, xs.length + 1 = n := ⟨_, rfl⟩
      rw [hn] at HM5 ⊢
      have hn0 : (0 : Int) < (n : Int) := by omega
      clear hO3 hcell hbase hown1 hgrow hat hlt
      go_wp2_with fail
      refine (nextToken_any _ _ _ s x _ hs HM5.out.env HM5.out.st (.inl HN.out)).mono ?_
      intro e w6 hres
      rcases hres with ⟨t, cv0, ho, rfl, hS2, hF2, hC2⟩ | ⟨off, eb, ho, rfl, hE2, hF2⟩
      case inr =>
        have HO := Lib.hid ho
        have HB2 := Lib.hid ((Frm.ofBelow HM5.out.bel []).trans hF2 (fun x hx => by right; simp at hx; omega)).below
        clear ho hE2 hF2
        go_wp2_with fail
        go_ret2
        exact .inr ⟨by rw [HI.out.lex2, rest_bad HO.out]; rfl, _, _, rfl, HB2.out⟩
      case inl =>
        have HO := Lib.hid ho
        obtain ⟨hh1, hh2⟩ := head_next ho x.p
        have hn2 := (next_ok ho).2.2.2.2.2.1
        rw [suf_len] at hn2
        have hln : t.len = t.pre + t.tk.n := rfl
        have hh3 : headOf (x.p, t) ≤ x.p + t.pre := hh2
        have hrl : (List.map (fun x => x.2) xs ++ [(first, a)]).length ≤ x.p := by simpa using hnum'
        have hEnd : Hid ((∃ r : Nat, r < 2 * (s.size - x.p) + 1 ∧ ∃ (y : LX) (res' : List (Nat × Nat)) (f' : Nat), f' = headOf (x.p, t) ∧ ((r = 2 * (s.size - y.p) ∧ Hid (SA s w (.slice (some ⟨g', 0, none⟩) n cap') res' f' y w6)) ∨ (∃ a', r = 2 * (s.size - y.p) + 1 ∧ Hid (SB s w (.slice (some ⟨g', 0, none⟩) n cap') res' f' a' y w6))))) := by
          have hM6 := HM5.out.read hS2 hF2
          rcases (next_ok ho).2.2.2.2.2.2 with ⟨hk, _⟩ | ⟨hk, _⟩
          · have hc : (lexAll s).2 = none → cuts 0 (lexAll s).1 = (List.map (fun x => x.2) xs ++ [(first, a)]) ++ cuts (headOf (x.p, t)) (rest s x).1 := fun h0 => by
              rw [HI.out.cut h0, rest_eof ho hk]; simp [headL]
            obtain ⟨q1, q2, _⟩ := eof_next (v := .nilIface) ho hk hpz
            exact ⟨2 * (s.size - (x.p + t.len)), by omega, _, _, _, rfl, .inl ⟨rfl, SA.goC ho hk hpz hM6 HI.out.lex2 hh3 hrl hc⟩⟩
          · have hc : (lexAll s).2 = none → cuts 0 (lexAll s).1 = (List.map (fun x => x.2) xs ++ [(first, a)]) ++ cuts (headOf (x.p, t)) (rest s x).1 := fun h0 => by
              rw [HI.out.cut h0, rest_more (v := .nilIface) ho hk]; simp [headL]
            have hn1 := hk.1
            cases hsm : isSemi t.tk with
            | false => exact ⟨2 * (s.size - (x.p + t.len)), by omega, _, _, _, rfl, .inl ⟨rfl, SA.goA ho hk hsm hM6 HI.out.lex2 hh3 (by omega) hc⟩⟩
            | true => exact ⟨2 * (s.size - (x.p + t.len)) + 1, by omega, _, _, _, rfl, .inr ⟨_, rfl, SA.goB ho hk hsm hM6 HI.out.lex2 hh3 hrl hc⟩⟩
        obtain ⟨r, hr, y, res', f', hf', hY⟩ := hEnd.out
        have HY := Lib.hid hY
        have hlx := hS2.lex
        have k2 : w6.cell? ⟨w.heap.size + 1, 2, none⟩ = some cv0 := block_cell hlx 2
        have k7b : w6.cell? ⟨w.heap.size + 1, 7, none⟩ = some (.int .i64 ((x.p + t.pre : Nat) : Int)) := block_cell hlx 7
        have hHd : headOf (x.p, t) = match t.coms with | [] => x.p + t.pre | c :: _ => x.p + c.1 := rfl
        clear hY hEnd ho hS2 hF2 hlx hh1 hh2
        cases hcm : t.coms with
        | nil =>
          rw [hcm] at hC2 hHd
          obtain ⟨ca, cc, rfl⟩ : ∃ ca cc, cv0 = .slice ca 0 cc := by
            rcases hC2.2 with ⟨h9, _⟩ | ⟨g', cap', cur, h9, _⟩
            · exact ⟨_, _, h9⟩
            · exact ⟨_, _, h9⟩
          obtain ⟨z, hz⟩ : ∃ z, x.p + t.pre = z := ⟨_, rfl⟩
          rw [hz] at k7b
          obtain rfl : f' = z := by rw [hf', hHd]; exact hz
          clear hC2 hHd hcm hf'
          go_wp2_with fail
          go_roundg r
          case measure => omega
          case rel => exact ⟨y, res', f', rfl, HY.out⟩
        | cons c rc =>
          rw [hcm] at hC2 hHd
          obtain ⟨g2, m2, cap2, rfl, hm2, kc⟩ : ∃ g2 m2 cap2, cv0 = .slice (some ⟨g2, 0, none⟩) m2 cap2 ∧ 0 < m2 ∧ w6.cell? ⟨g2, 2, none⟩ = some (.int .i64 ((x.p + c.1 : Nat) : Int)) := by
            rcases hC2.2 with ⟨_, h9⟩ | ⟨g', cap', cur, h9, _⟩
            · simp [comsAt] at h9
            · subst h9
              exact ⟨g', _, _, rfl, by simp [comsAt], hC2.cellAt 2 (by simp [comsAt]; omega)⟩
          obtain ⟨z, hz⟩ : ∃ z, x.p + c.1 = z := ⟨_, rfl⟩
          rw [hz] at kc
          obtain rfl : f' = z := by rw [hf', hHd]; exact hz
          have hm3 : (0 : Int) < (m2 : Int) := by omega
          clear hC2 hHd hcm hf'
          go_wp2_with fail
          go_roundg r
          case measure => omega
          case rel => exact ⟨y, res', f', rfl, HY.out⟩

end Go.Proofs.YtngofbhlhcalpaaGreatDoor.lexer

namespace Go.Proofs.YtngofbhlhcalpaaGreatDoor.lexer
open Go.RowKit Go.Proofs.YtngofbhlhcalpaaGreatDoor.gen

theorem infoRw : (Tryz.prog.info? 43).map (fun i => (i.zero, i.size, i.bytes)) = some (some (.agg #[.int .i64 0, .int .i64 0, .string ⟨#[]⟩]), 3, 32) := by kernel_rfl

def rcell (s : ByteArray) (r : Nat × Nat) : List Value := [.int .i64 (r.1 : Int), .int .i64 (r.2 : Int), .string (s.extract r.1 r.2)]
def rcells (s : ByteArray) (l : List (Nat × Nat)) : List Value := l.flatMap (rcell s)
theorem rcells_app (s : ByteArray) (a b : List (Nat × Nat)) : rcells s (a ++ b) = rcells s a ++ rcells s b := by simp [rcells]

def RawsAt (s : ByteArray) (w : World) (base : Nat) (v : Value) (l : List (Nat × Nat)) : Prop := w.ownsRow base 43 3 v l.length (rcells s l)

/-- What impl.Split gives. -/
def ISRes (s : ByteArray) (w : World) (e : Ending) (w' : World) : Prop :=
  ((lexAll s).2 = none ∧ ∃ v, e = .returned (.tuple #[v, .bool true]) ∧ RawsAt s w' w.heap.size v (orOne (cuts 0 (lexAll s).1)) ∧ Below w.heap.size w w') ∨
  ((lexAll s).2.isSome = true ∧ ∃ v, e = .returned (.tuple #[v, .bool false]) ∧ Below w.heap.size w w')

theorem PtrsAt.at_ {s : ByteArray} {w : World} {base g n cap : Nat} {l : List (Nat × Nat)} (h : PtrsAt s w base (.slice (some ⟨g, 0, none⟩) n cap) l) (k : Nat) (r : Nat × Nat) (hk : l[k]? = some r) :
    ∃ b, w.cell? ⟨g, k, none⟩ = some (.pointer (some ⟨b, 0, none⟩)) ∧ b < w.heap.size ∧ w.heap[b]? = some (.cells #[.int .i64 (r.1 : Int), .int .i64 (r.2 : Int), .string (s.extract r.1 r.2)] tRS (0, 0)) := by
  obtain ⟨xs, rfl, h2, h3⟩ := h
  have hn : n = xs.length := by
    rcases h2.2 with ⟨h1, _⟩ | ⟨g', cap', cur, h1, _⟩
    · cases h1
    · cases h1; rfl
  subst hn
  rw [List.getElem?_map] at hk
  cases hx : xs[k]? with
  | none => rw [hx] at hk; cases hk
  | some x =>
    rw [hx] at hk
    have hk : x.2 = r := by simpa using hk
    have hm := List.mem_of_getElem? hx
    have hlt : k < xs.length := by
      rcases Nat.lt_or_ge k xs.length with h' | h'
      · exact h'
      · rw [List.getElem?_eq_none h'] at hx; cases hx
    refine ⟨x.1, ?_, block_lt (h3 x hm).2, by rw [← hk]; exact (h3 x hm).2⟩
    rw [h2.cellAt k (by omega), List.getElem?_map, hx]
    rfl

set_option maxRecDepth 100000 in
set_option maxHeartbeats 4000000 in
theorem implSplit_any (s : ByteArray) (w : World) (hs : s.size ≤ 1048576) (hl : (lexAll s).2 = none → (orOne (cuts 0 (lexAll s).1)).length ≤ 1048580 ∧ 0 < (orOne (cuts 0 (lexAll s).1)).length) (hN : NB s) (hc : Ctx w) : Calls Tryz.prog 35 #[.string s] w (ISRes s w) := by
  obtain ⟨i0, hi0, hz0, hz1, hz2⟩ := info_parts infoRw
  have HN := Lib.hid hN
  have HC := Lib.hid hc
  have HL := Lib.hid hl
  clear hN hc hl
  go_enter Tryz.func35, Tryz.ntmps35
  go_wp2_with fail
  refine (splitRaw_any s _ hs HN.out HC.out).mono ?_
  rintro e w1 (⟨hn, v, rfl, hP, hb⟩ | ⟨hn, t, p, rfl, hb⟩)
  case inr =>
    have HO := Lib.hid hn
    have HB := Lib.hid hb
    clear hn hb
    go_wp2_with fail
    go_ret2
    exact .inr ⟨HO.out, _, rfl, HB.out⟩
  case inl =>
    obtain ⟨hlen, h0⟩ := HL.out hn
    obtain ⟨R, hR⟩ : ∃ R, R = orOne (cuts 0 (lexAll s).1) := ⟨_, rfl⟩
    rw [← hR] at hP hlen h0
    have HR := Lib.hid hR
    obtain ⟨n, hnn⟩ : ∃ n, R.length = n := ⟨_, rfl⟩
    obtain ⟨g, cap, rfl⟩ : ∃ g cap, v = .slice (some ⟨g, 0, none⟩) n cap := by
      obtain ⟨xs, hxs, hO, _⟩ := hP
      have hl := congrArg List.length hxs
      rw [List.length_map] at hl
      rcases hO.2 with ⟨_, h9⟩ | ⟨g', cap', cur, h1, _⟩
      · omega
      · exact ⟨g', cap', by rw [h1]; congr 1; omega⟩
    rw [hnn] at hlen h0
    have HP := Lib.hid hP
    have HO := Lib.hid hn
    have HB := Lib.hid hb
    have HNn := Lib.hid hnn
    clear hP hn hb hR hnn
    go_wp2_with fail
    go_loopg [6, 18] n (fun g' v i wr => ∃ k : Nat, g' = n - k ∧ i = .int .i64 k ∧ k ≤ n ∧ Hid (Below w1.heap.size w1 wr) ∧ Hid (RawsAt s wr w1.heap.size v (R.take k)))
    case atStart => exact ⟨0, rfl, rfl, Nat.zero_le _, Below.refl _ _, World.ownsRow_nil _ _ _ _⟩
    case round =>
      obtain ⟨k, hg, rfl, hkn, HB2, HO2⟩ := hrel
      by_cases hlt : k < n
      · have hlt2 : k < R.length := by have := HNn.out; omega
        obtain ⟨r, hr⟩ : ∃ r, R[k]? = some r := ⟨_, List.getElem?_eq_getElem hlt2⟩
        obtain ⟨b, hq, hbl, hbk⟩ := HP.out.at_ k r hr
        have hblk : wr.heap[b]? = some (.cells #[.int .i64 (r.1 : Int), .int .i64 (r.2 : Int), .string (s.extract r.1 r.2)] tRS (0, 0)) := (HB2.out.block b hbl).trans hbk
        have hq2 : wr.cell? ⟨g, k, none⟩ = some (.pointer (some ⟨b, 0, none⟩)) := (HB2.out.cell (by have := World.block_lt_of_cell? _ _ hq; exact this)).trans hq
        have hkl : (R.take k).length = k := by rw [List.length_take]; omega
        have htk : R.take (k + 1) = R.take k ++ [r] := by rw [List.take_add_one, hr]; rfl
        have hi1 : (0 : Int) ≤ (k : Int) := by omega
        have hi2 : (k : Int) < (n : Int) := by omega
        have hkw : IntKind.i64.wrap ((k : Int) + 1) = (k : Int) + 1 := IntWalk.i64_in _ (by omega)
        obtain ⟨T, hT⟩ : ∃ T, s.extract r.1 r.2 = T := ⟨_, rfl⟩
        rw [hT] at hblk
        obtain ⟨r1, hr1⟩ : ∃ r1, r.1 = r1 := ⟨_, rfl⟩
        obtain ⟨r2, hr2⟩ : ∃ r2, r.2 = r2 := ⟨_, rfl⟩
        rw [hr1, hr2] at hblk
        have c0 : wr.cell? ⟨b, 0, none⟩ = some (.int .i64 (r1 : Int)) := block_cell hblk 0
        have c1 : wr.cell? ⟨b, 1, none⟩ = some (.int .i64 (r2 : Int)) := block_cell hblk 1
        have c2 : wr.cell? ⟨b, 2, none⟩ = some (.string T) := block_cell hblk 2
        have hO3 : wr.ownsRow w1.heap.size 43 3 u6 k (rcells s (R.take k)) := by have := HO2.out; unfold RawsAt at this; rw [hkl] at this; exact this
        have hO4 : (wr.alloc (.cells #[.int .i64 (r1 : Int), .int .i64 (r2 : Int), .string T] 43)).drew.ownsRow w1.heap.size 43 3 u6 k (rcells s (R.take k)) := World.ownsRow.alloc hO3 _
        have hcell : ∀ j u, [Value.int .i64 (r1 : Int), .int .i64 (r2 : Int), .string T][j]? = some u → (wr.alloc (.cells #[.int .i64 (r1 : Int), .int .i64 (r2 : Int), .string T] 43)).drew.cell? ((⟨wr.heap.size, 0, none⟩ : Addr).add j) = some u := World.news_of_block (cs := #[.int .i64 (r1 : Int), .int .i64 (r2 : Int), .string T]) (t := 43) (fr := (0, 0)) (heap_alloc_new wr _)
        have hbw := block_lt hblk
        have hk1 : ∀ o j, (wr.alloc o).drew.cell? ⟨b, j, none⟩ = wr.cell? ⟨b, j, none⟩ := fun o j => World.cell?_of_block (Below.heap_alloc wr o _ hbw)
        have hrow : ∀ y, u6.ownBlock = some y → y ≠ b := fun y hy => by have := (hO3.lt y hy).1; omega
        have hzz := HB2.out.size
        have hbase : w1.heap.size ≤ (wr.alloc (.cells #[.int .i64 (r1 : Int), .int .i64 (r2 : Int), .string T] 43)).drew.heap.size := by
          show _ ≤ (wr.heap.push _).size
          rw [Array.size_push]; omega
        have hS0 : wr.drew.cell? ⟨b, 0, none⟩ = some (.int .i64 (r1 : Int)) ∧ wr.drew.cell? ⟨b, 1, none⟩ = some (.int .i64 (r2 : Int)) ∧ wr.drew.cell? ⟨b, 2, none⟩ = some (.string T) := ⟨c0, c1, c2⟩
        have hS1 : ∀ o, (wr.alloc o).drew.cell? ⟨b, 0, none⟩ = some (.int .i64 (r1 : Int)) ∧ (wr.alloc o).drew.cell? ⟨b, 1, none⟩ = some (.int .i64 (r2 : Int)) ∧ (wr.alloc o).drew.cell? ⟨b, 2, none⟩ = some (.string T) := fun o => ⟨(hk1 o 0).trans c0, (hk1 o 1).trans c1, (hk1 o 2).trans c2⟩
        have HS1 := Lib.hid hS1
        have HRow := Lib.hid hrow
        have HO3 := Lib.hid hO3
        have HTk := Lib.hid htk
        have HT := Lib.hid hT
        have HR1 := Lib.hid hr1
        have HR2 := Lib.hid hr2
        clear hk1 hS1 hrow hO3 htk hT hr1 hr2 hq hbk hblk hr
        go_wp2_with fail
        go_region_held3 (fun w' => w'.cell? ⟨b, 0, none⟩ = some (.int .i64 (r1 : Int)) ∧ w'.cell? ⟨b, 1, none⟩ = some (.int .i64 (r2 : Int)) ∧ w'.cell? ⟨b, 2, none⟩ = some (.string T)) (first | exact hS0 | exact HS1.out _ | exact ⟨(hgrow.cell_far _ (by simp; omega) (by intro e; exact HRow.out _ e.symm rfl)).trans (HS1.out _).1, (hgrow.cell_far _ (by simp; omega) (by intro e; exact HRow.out _ e.symm rfl)).trans (HS1.out _).2.1, (hgrow.cell_far _ (by simp; omega) (by intro e; exact HRow.out _ e.symm rfl)).trans (HS1.out _).2.2⟩) ((refine step_append_lies _ (by rfl) _ _ _ (by rfl) w1.heap.size 43 i0 _ 3 32 Tryz.underlying37 hi0 hz0 hz1 hz2 rfl (by omega) u6 k (rcells s (R.take k)) (by rfl) hO4 ⟨wr.heap.size, 0, none⟩ 1 1 [.int .i64 (r1 : Int), .int .i64 (r2 : Int), .string T] (by rfl) (by rfl) hcell (by simp [Value.oneCell']) (by omega) (by unfold maxLen; omega) (by omega) hbase (wr.heap.size + 1) (by simp) ?_; intro g' cap' w5 hown1 hgrow hat hlt5))
        have HO5 : Hid (RawsAt s w5 w1.heap.size (.slice (some ⟨g', 0, none⟩) (k + 1) cap') (R.take (k + 1))) := by
          show RawsAt _ _ _ _ _
          unfold RawsAt
          rw [HTk.out, rcells_app, List.length_append, hkl]
          have e : rcells s [r] = [.int .i64 (r1 : Int), .int .i64 (r2 : Int), .string T] := by
            rw [← HT.out, ← HR1.out, ← HR2.out]; simp [rcells, rcell]
          rw [e]
          exact hown1
        have HB5 : Hid (Below w1.heap.size w1 w5) := by
          have h1 : Frm wr w5 u6.ownBlock.toList := (((Frm.refl wr []).alloc _).drew.mono (by simp)).step (Frm.grown (S := u6.ownBlock.toList) hgrow fun b hb => .inl (by rw [hb]; simp))
          exact (((Frm.ofBelow HB2.out []).trans h1) (fun x hx => .inr (HO3.out.lt x (by simpa using hx)).1)).below
        clear hown1 hgrow hat hlt5 hO4 hcell hbase hS0
        go_wp2_with fail
        go_roundg (n - (k + 1))
        case measure => omega
        case rel => exact ⟨k + 1, rfl, by go_num, by omega, HB5, HO5⟩
      · obtain rfl : k = n := by omega
        go_wp2_with fail
        go_ret2
        refine .inl ⟨HO.out, _, rfl, ?_, HB.out.trans (HB2.out.mono HB.out.size)⟩
        have := HO2.out
        rw [← HNn.out, List.take_length, HR.out] at this
        obtain ⟨h1, h2⟩ := this
        refine ⟨h1, ?_⟩
        have hzz := HB.out.size
        rcases h2 with h2 | ⟨g, cap, cur, k1, k2, k3⟩
        · exact .inl h2
        · exact .inr ⟨g, cap, cur, k1, by omega, k3⟩

end Go.Proofs.YtngofbhlhcalpaaGreatDoor.lexer

namespace Go.Proofs.YtngofbhlhcalpaaGreatDoor.lexer
open Go.RowKit Go.Proofs.YtngofbhlhcalpaaGreatDoor.gen

theorem lexed_any (s : ByteArray) (w : World) (hs : s.size ≤ 1048576) (hN : NB s) (hc : Ctx w) : Calls Tryz.prog 20 #[.string s] w (LexRes s w) := by
  have HN := Lib.hid hN
  have HC := Lib.hid hc
  clear hN hc
  go_enter Tryz.func20, Tryz.ntmps20
  go_wp2_with fail
  refine (padded_no s _ (by omega) HN.out).mono ?_
  rintro e w1 ⟨rfl, rfl⟩
  go_wp2_with fail
  refine (lex_any s _ hs HC.out (.inl HN.out)).mono ?_
  rintro e w2 ⟨v, rfl, hT, hb⟩
  have HT := Lib.hid hT
  have HB := Lib.hid hb
  clear hT hb
  go_wp2_with fail
  go_ret3
  exact ⟨v, rfl, HT.out, HB.out⟩

theorem splitd_any (s : ByteArray) (w : World) (hs : s.size ≤ 1048576) (hl : (lexAll s).2 = none → (orOne (cuts 0 (lexAll s).1)).length ≤ 1048580 ∧ 0 < (orOne (cuts 0 (lexAll s).1)).length) (hN : NB s) (hc : Ctx w) : Calls Tryz.prog 21 #[.string s] w (ISRes s w) := by
  have HN := Lib.hid hN
  have HC := Lib.hid hc
  have HL := Lib.hid hl
  clear hN hc hl
  go_enter Tryz.func21, Tryz.ntmps21
  go_wp2_with fail
  refine (padded_no s _ (by omega) HN.out).mono ?_
  rintro e w1 ⟨rfl, rfl⟩
  go_wp2_with fail
  refine (implSplit_any s _ hs HL.out HN.out HC.out).mono ?_
  rintro e w2 (⟨hn, v, rfl, hP, hb⟩ | ⟨hn, v, rfl, hb⟩)
  · have HP := Lib.hid hP
    have HB := Lib.hid hb
    clear hP hb
    go_wp2_with fail
    go_ret2
    exact .inl ⟨hn, v, rfl, HP.out, HB.out⟩
  · have HB := Lib.hid hb
    clear hb
    go_wp2_with fail
    go_ret2
    exact .inr ⟨hn, v, rfl, HB.out⟩

theorem splitF_any (s : ByteArray) (w : World) (hs : s.size ≤ 1048576) (hf : (lexAll s).2.isSome = true) (hN : NB s) (hc : Ctx w) : Calls Tryz.prog 21 #[.string s] w fun e w' => ∃ v, e = .returned (.tuple #[v, .bool false]) ∧ Below w.heap.size w w' := by
  refine (splitd_any s w hs (fun h => by rw [h] at hf; cases hf) hN hc).mono ?_
  rintro e w2 (⟨hn, _⟩ | ⟨_, v, rfl, hb⟩)
  · rw [hn] at hf; cases hf
  · exact ⟨v, rfl, hb⟩

theorem rcells_len (s : ByteArray) (l : List (Nat × Nat)) : (rcells s l).length = l.length * 3 := by
  induction l with
  | nil => rfl
  | cons a b ih =>
    have : rcells s (a :: b) = rcell s a ++ rcells s b := rfl
    rw [this, List.length_append, ih]
    simp [rcell]; omega
theorem rcells_at (s : ByteArray) : ∀ (l : List (Nat × Nat)) (k : Nat) (r : Nat × Nat), l[k]? = some r → ∀ j, j < 3 → (rcells s l)[k * 3 + j]? = (rcell s r)[j]? := by
  intro l
  induction l with
  | nil => intro k r h; simp at h
  | cons a b ih =>
    intro k r h j hj
    have e : rcells s (a :: b) = rcell s a ++ rcells s b := rfl
    have e3 : (rcell s a).length = 3 := rfl
    cases k with
    | zero =>
      simp at h; subst h
      rw [e, List.getElem?_append_left (by omega), Nat.zero_mul, Nat.zero_add]
    | succ k =>
      rw [e, List.getElem?_append_right (by omega), e3, show (k + 1) * 3 + j - 3 = k * 3 + j from by omega]
      exact ih k r (by simpa using h) j hj

theorem RawsAt.at_ {s : ByteArray} {w : World} {base g n cap : Nat} {l : List (Nat × Nat)} (h : RawsAt s w base (.slice (some ⟨g, 0, none⟩) n cap) l) (k : Nat) (r : Nat × Nat) (hk : l[k]? = some r) :
    w.cell? ⟨g, k * 3, none⟩ = some (.int .i64 (r.1 : Int)) ∧ w.cell? ⟨g, k * 3 + 1, none⟩ = some (.int .i64 (r.2 : Int)) ∧ w.cell? ⟨g, k * 3 + 2, none⟩ = some (.string (s.extract r.1 r.2)) ∧ g < w.heap.size := by
  have hn : n = l.length ∧ g < w.heap.size := by
    rcases h.2 with ⟨h1, _⟩ | ⟨g', cap', cur, h1, _, h3, _⟩
    · cases h1
    · cases h1; exact ⟨rfl, block_lt h3⟩
  obtain ⟨rfl, hg⟩ := hn
  have hlt : k < l.length := by
    rcases Nat.lt_or_ge k l.length with h' | h'
    · exact h'
    · rw [List.getElem?_eq_none h'] at hk; cases hk
  refine ⟨?_, ?_, ?_, hg⟩
  · have := rcells_at s l k r hk 0 (by omega)
    rw [Nat.add_zero] at this
    exact (h.cellAt (k * 3) (by omega)).trans this
  · exact (h.cellAt (k * 3 + 1) (by omega)).trans (rcells_at s l k r hk 1 (by omega))
  · exact (h.cellAt (k * 3 + 2) (by omega)).trans (rcells_at s l k r hk 2 (by omega))

theorem ext_list (s : ByteArray) (a b : Nat) : (s.extract a b).data.toList = (s.data.toList.drop a).take (b - a) := by
  rw [ByteArray.data_extract, Array.toList_extract]
theorem ext_size (s : ByteArray) (a b : Nat) (h : b ≤ s.size) : (s.extract a b).size = b - a := by
  show (s.extract a b).data.size = _
  rw [← Array.length_toList, ext_list, List.length_take, List.length_drop, len_list]
  omega
/-- Blanks alone, as the law asks. -/
theorem blanks_ext {s : ByteArray} {a b : Nat} (h : Blanks s.data.toList a b) (hb : b ≤ s.size) : spc (s.extract a b).data.toList = (s.extract a b).size := by
  rw [ext_list, ext_size s a b hb]
  exact h
theorem blanks_none (s : ByteArray) (a : Nat) (ha : a ≤ s.size) : spc (s.extract a a).data.toList = (s.extract a a).size := blanks_ext (Blanks.nil _ a) ha

/-- Where the statement ahead of the k-th ends. -/
def endAt (R : List (Nat × Nat)) : Nat → Nat
  | 0 => 0
  | j + 1 => (R[j]?.map (·.2)).getD 0

/-- What the law asks at the k-th statement. -/
theorem facts_at {s : ByteArray} {R : List (Nat × Nat)} {A : List Nat} (h : Facts s.data.toList 0 R A) (k : Nat) (r : Nat × Nat) (hk : R[k]? = some r) :
    r.1 ≤ r.2 ∧ r.2 ≤ s.size ∧ endAt R (k + 1) = r.2 ∧ ((k = 0 ∧ r.1 = 0) ∨ (∃ j, k = j + 1 ∧ A[j]? = some (endAt R k) ∧ endAt R k + 1 ≤ r.1 ∧ Blanks s.data.toList (endAt R k + 1) r.1)) := by
  have h1 := h.elem k r hk
  rw [len_list] at h1
  refine ⟨h1.1, h1.2, by simp [endAt, hk], ?_⟩
  cases k with
  | zero => exact .inl ⟨rfl, h.fst r hk⟩
  | succ j =>
    right
    have hj : ∃ q, R[j]? = some q := by
      have : j + 1 < R.length := by
        rcases Nat.lt_or_ge (j + 1) R.length with h' | h'
        · exact h'
        · rw [List.getElem?_eq_none h'] at hk; cases hk
      exact ⟨_, List.getElem?_eq_getElem (by omega)⟩
    obtain ⟨q, hq⟩ := hj
    obtain ⟨m1, m2, m3, m4⟩ := h.mid j q r hq hk
    have e : endAt R (j + 1) = q.2 := by simp [endAt, hq]
    rw [e]
    exact ⟨j, rfl, m1, m2, m4⟩
theorem facts_end {s : ByteArray} {R : List (Nat × Nat)} {A : List Nat} (h : Facts s.data.toList 0 R A) (h0 : 0 < R.length) :
    endAt R R.length ≤ s.size ∧ ((R.length = A.length ∧ A[A.length - 1]? = some (endAt R R.length) ∧ endAt R R.length < s.size ∧ Blanks s.data.toList (endAt R R.length + 1) s.size) ∨ (R.length = A.length + 1 ∧ endAt R R.length = s.size)) := by
  obtain ⟨i, hi⟩ : ∃ i, R.length = i + 1 := ⟨R.length - 1, by omega⟩
  obtain ⟨r, hr⟩ : ∃ r, R[i]? = some r := ⟨_, List.getElem?_eq_getElem (by omega)⟩
  have e : endAt R R.length = r.2 := by rw [hi]; simp [endAt, hr]
  have hl := h.last i r hr hi.symm
  have h1 := h.elem i r hr
  rw [len_list] at h1 hl
  rw [e]
  refine ⟨h1.2, ?_⟩
  rcases hl with ⟨k1, k2, k3, k4⟩ | ⟨k1, k2⟩
  · exact .inl ⟨k1, by rw [← k1, hi]; exact k2, k3, k4⟩
  · exact .inr ⟨k1, k2⟩

end Go.Proofs.YtngofbhlhcalpaaGreatDoor.lexer
