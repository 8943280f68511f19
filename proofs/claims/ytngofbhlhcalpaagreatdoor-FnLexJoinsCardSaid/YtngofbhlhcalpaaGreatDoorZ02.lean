/-
  Lemmas and contracts of this claim, texts Tail, GapP, EndQ, AloneP, EndR, TokT, LexD, Brit, HelpA, HelpC, LawQ, JoinQ, HelpB, HelpD. No statement of the seat is proved here.
-/
import Derived.Test.YtngofbhlhcalpaaGreatDoorZ01
import Derived.Deep.DeepCutAuto
import Derived.Deep.CutBlock
import Derived.Deep.LoopGhost
import Derived.Test.YtngofbhlhcalpaaGreatDoorZ00
import Derived.Deep.RegionHeld3
namespace Go.Proofs.YtngofbhlhcalpaaGreatDoor.lexer
open Go.RowKit Go.Proofs.YtngofbhlhcalpaaGreatDoor.gen
open Go.Proofs.YtngofbhlhcalpaaGreatDoor.upper (up isKw upb upb_lo upb_no)

/-- What may stand behind a token in the place of u: nothing, a line's end, or something with the same first byte. -/
def Fol (u v : List UInt8) : Prop := v = [] ∨ (∃ r, v = 10 :: r) ∨ ∃ c r r', u = c :: r ∧ v = c :: r'

theorem Fol.stop (u : List UInt8) : Fol u [] := .inl rfl
theorem Fol.line (u r : List UInt8) : Fol u (u ++ 10 :: r) := by
  cases u with
  | nil => exact .inr (.inl ⟨r, rfl⟩)
  | cons c t => exact .inr (.inr ⟨c, t, t ++ 10 :: r, rfl, rfl⟩)

section
variable {u v : List UInt8}
theorem Fol.idp (h : Fol u v) (hu : idpHead u = false) : idpHead v = false := by
  rcases h with rfl | ⟨r, rfl⟩ | ⟨c, r, r', rfl, rfl⟩
  · rfl
  · exact (by decide : idp (nn 10) = false)
  · exact hu
theorem Fol.ids (h : Fol u v) (hu : idsHead u = false) : idsHead v = false := by
  rcases h with rfl | ⟨r, rfl⟩ | ⟨c, r, r', rfl, rfl⟩
  · rfl
  · exact (by decide : lexer.ids (nn 10) = false)
  · exact hu
theorem Fol.dg (h : Fol u v) (hu : dgHead u = false) : dgHead v = false := by
  rcases h with rfl | ⟨r, rfl⟩ | ⟨c, r, r', rfl, rfl⟩
  · rfl
  · exact (by decide : lexer.dg (nn 10) = false)
  · exact hu
end

theorem idp_of_dg {c : Int} (h : dg c = true) : idp c = true := by unfold idp; rw [h]; rfl
theorem idp_of_hx {c : Int} (h : idp c = false) : hx c = false := by
  unfold idp at h
  simp only [Bool.or_eq_false_iff] at h
  obtain ⟨h1, h2⟩ := h
  unfold ids at h2
  simp only [Bool.or_eq_false_iff, Bool.and_eq_false_iff, decide_eq_false_iff_not] at h2
  unfold hx
  rw [h1]
  simp only [Bool.false_or, Bool.or_eq_false_iff, Bool.and_eq_false_iff, decide_eq_false_iff_not]
  omega
theorem idp_letters {c : Int} (h : idp c = false) : c ≠ 69 ∧ c ≠ 101 ∧ c ≠ 66 ∧ c ≠ 98 ∧ c ≠ 82 ∧ c ≠ 114 := by
  refine ⟨?_, ?_, ?_, ?_, ?_, ?_⟩ <;> (rintro rfl; revert h; decide)
theorem dgHead_idp {u : List UInt8} (h : idpHead u = false) : dgHead u = false := by
  cases u with
  | nil => rfl
  | cons c r =>
    cases hd : dg (nn c) with
    | false => exact hd
    | true => have := idp_of_dg hd; rw [show idpHead (c :: r) = idp (nn c) from rfl, this] at h; cases h

theorem idLen_full : ∀ (x u : List UInt8), idLen (x ++ u) = x.length → (∀ c ∈ x, idp (nn c) = true) ∧ idpHead u = false := by
  intro x
  induction x with
  | nil =>
    intro u h
    refine ⟨fun c hc => (by cases hc), ?_⟩
    cases u with
    | nil => rfl
    | cons c r =>
      simp only [List.nil_append, List.length_nil, idLen] at h
      split at h
      · omega
      · rename_i hc; simpa [idpHead] using hc
  | cons c x ih =>
    intro u h
    simp only [List.cons_append, idLen, List.length_cons] at h
    split at h
    · rename_i hc
      obtain ⟨h1, h2⟩ := ih u (by omega)
      refine ⟨fun d hd => ?_, h2⟩
      rcases List.mem_cons.1 hd with rfl | hd
      · exact hc
      · exact h1 d hd
    · omega
theorem idLen_app : ∀ (x v : List UInt8), (∀ c ∈ x, idp (nn c) = true) → idpHead v = false → idLen (x ++ v) = x.length := by
  intro x
  induction x with
  | nil =>
    intro v _ h
    cases v with
    | nil => rfl
    | cons c r =>
      have h : idp (nn c) = false := h
      simp [idLen, h]
  | cons c x ih =>
    intro v h h2
    have := ih v (fun d hd => h d (List.mem_cons_of_mem _ hd)) h2
    simp only [List.cons_append, idLen, h c (List.mem_cons_self ..), if_true, this, List.length_cons]

theorem numU_nonid (c : UInt8) (r : List UInt8) (b i e : Bool) (h : idp (nn c) = false) :
    numU (c :: r) b i e = if !e && i && !b && (nn c == 46) then ((numU r b false e).1 + 1, (numU r b false e).2) else (0, i) := by
  have h1 : dg (nn c) = false := by cases hd : dg (nn c) with
    | false => rfl
    | true => rw [idp_of_dg hd] at h; cases h
  have h2 := idp_of_hx h
  have h3 := idp_letters h
  rw [numU.eq_def]
  simp [h1, h2, h3.1, h3.2.1]

theorem numU_zero (u : List UInt8) (b i e : Bool) (h : (numU u b i e).1 = 0) : (numU u b i e).2 = i := by
  cases u with
  | nil => rfl
  | cons c r =>
    unfold numU at h ⊢
    split
    · rename_i h1; rw [if_pos h1] at h; simp at h
    · rename_i h1
      rw [if_neg h1] at h
      split
      · rename_i h2; rw [if_pos h2] at h; simp at h
      · rename_i h2
        rw [if_neg h2] at h
        split
        · rename_i h3; rw [if_pos h3] at h; simp at h
        · rename_i h3
          rw [if_neg h3] at h
          split
          · rename_i h4
            rw [if_pos h4] at h
            cases r with
            | nil => rfl
            | cons d r2 =>
              simp only at h ⊢
              split
              · rename_i h5
                rw [if_pos h5] at h
                split
                · rename_i h6; rw [if_pos h6] at h; simp at h
                · rfl
              · rename_i h5
                rw [if_neg h5] at h
                split
                · rename_i h6; rw [if_pos h6] at h; simp at h
                · rfl
          · rfl

theorem numU_tail : ∀ (m : Nat) (x u v : List UInt8) (b i e j : Bool), x.length ≤ m → idpHead u = false → Fol u v → numU (x ++ u) b i e = (x.length, j) → numU (x ++ v) b i e = (x.length, j) := by
  intro m
  induction m with
  | zero =>
    intro x u v b i e j hm hu hf h
    obtain rfl : x = [] := List.eq_nil_of_length_eq_zero (by omega)
    simp only [List.nil_append, List.length_nil] at h ⊢
    have hj : j = i := by
      have := numU_zero u b i e (by rw [h])
      rw [h] at this
      exact this
    subst hj
    rcases hf with rfl | ⟨r, rfl⟩ | ⟨c, r, r', rfl, rfl⟩
    · rfl
    · rw [numU_nonid 10 r b j e (by decide)]
      rw [if_neg (by simp [show (nn 10 == 46) = false from by decide])]
    · rw [numU_nonid c r b j e hu] at h
      rw [numU_nonid c r' b j e hu]
      split at h
      · simp at h
      · rename_i h1; rw [if_neg h1]
  | succ m ih =>
    intro x u v b i e j hm hu hf h
    cases x with
    | nil => exact ih [] u v b i e j (Nat.zero_le _) hu hf h
    | cons c x =>
      simp only [List.length_cons] at hm
      simp only [List.cons_append, List.length_cons] at h ⊢
      have key : ∀ i' e', ((numU (x ++ u) b i' e').1 + 1, (numU (x ++ u) b i' e').2) = (x.length + 1, j) → ((numU (x ++ v) b i' e').1 + 1, (numU (x ++ v) b i' e').2) = (x.length + 1, j) := by
        intro i' e' h
        simp only [Prod.mk.injEq] at h
        have := ih x u v b i' e' j (by omega) hu hf (Prod.ext (by simp only; omega) h.2)
        rw [this]
      unfold numU at h ⊢
      split at h
      · rename_i h1
        rw [if_pos h1]
        exact key _ _ h
      · rename_i h1
        rw [if_neg h1]
        split at h
        · rename_i h2
          rw [if_pos h2]
          exact key _ _ h
        · rename_i h2
          rw [if_neg h2]
          split at h
          · rename_i h3
            rw [if_pos h3]
            exact key _ _ h
          · rename_i h3
            rw [if_neg h3]
            split at h
            · rename_i h4
              rw [if_pos h4]
              cases x with
              | nil =>
                simp only [List.nil_append] at h
                cases u with
                | nil => simp at h
                | cons d r2 =>
                  simp only at h
                  split at h
                  · split at h <;> simp at h
                  · split at h <;> simp at h
              | cons d x2 =>
                simp only [List.length_cons] at hm
                simp only [List.cons_append, List.length_cons] at h ⊢
                have key2 : ((numU (x2 ++ u) b false true).1 + 2, (numU (x2 ++ u) b false true).2) = (x2.length + 1 + 1, j) → ((numU (x2 ++ v) b false true).1 + 2, (numU (x2 ++ v) b false true).2) = (x2.length + 1 + 1, j) := by
                  intro h
                  simp only [Prod.mk.injEq] at h
                  have := ih x2 u v b false true j (by omega) hu hf (Prod.ext (by simp only; omega) h.2)
                  rw [this]
                split at h
                · rename_i h5
                  rw [if_pos h5]
                  split at h
                  · rename_i h6
                    have h7 : dgHead (x2 ++ v) = true := by
                      cases x2 with
                      | nil => rw [List.nil_append, dgHead_idp hu] at h6; cases h6
                      | cons d2 x3 => exact h6
                    rw [if_pos h7]
                    exact key2 h
                  · simp at h
                · rename_i h5
                  rw [if_neg h5]
                  split at h
                  · rename_i h6
                    rw [if_pos h6]
                    exact key2 h
                  · simp at h
            · simp at h

theorem num_tail (c : UInt8) (x u v : List UInt8) (t : Tk) (hf : Fol u v) (h : num (c :: x ++ u) = .ok t) (hn : t.n = (c :: x).length) : num (c :: x ++ v) = .ok t ∧ idpHead u = false := by
  obtain ⟨hi, rfl⟩ := num_ok h
  have hN : numN (c :: x ++ u) = (c :: x).length := hn
  have hu : idpHead u = false := by rw [hN, List.drop_left] at hi; exact hi
  have key : isHexNum (c :: x ++ v) = isHexNum (c :: x ++ u) ∧ numN (c :: x ++ v) = numN (c :: x ++ u) ∧ numI (c :: x ++ v) = numI (c :: x ++ u) := by
    cases hx : isHexNum (c :: x ++ u) with
    | true =>
      have hN2 : 2 + (numU ((c :: x ++ u).drop 2) true true false).1 = (c :: x).length := by
        rw [← hN]; unfold numN; rw [hx]; rfl
      cases x with
      | nil => simp only [List.length_cons, List.length_nil] at hN2; omega
      | cons d x =>
        have hd : ∀ w, (c :: d :: x ++ w).drop 2 = x ++ w := fun w => rfl
        rw [hd] at hN2
        simp only [List.length_cons] at hN2
        have h2 := numU_tail _ x u v true true false (numU (x ++ u) true true false).2 (Nat.le_refl _) hu hf (Prod.ext (by simp only; omega) rfl)
        have hx2 : isHexNum (c :: d :: x ++ v) = true := hx
        refine ⟨hx2, ?_, ?_⟩
        · unfold numN
          rw [hx, hx2]
          simp only [if_true, hd, h2]
          omega
        · unfold numI
          rw [hx, hx2]
          simp only [if_true]
    | false =>
      have hN2 : (numU (c :: x ++ u) false true false).1 = (c :: x).length := by
        rw [← hN]; unfold numN; rw [hx]; rfl
      have h2 := numU_tail _ (c :: x) u v false true false (numU (c :: x ++ u) false true false).2 (Nat.le_refl _) hu hf (Prod.ext hN2 rfl)
      have hx2 : isHexNum (c :: x ++ v) = false := by
        cases x with
        | cons d x => exact hx
        | nil =>
          rcases hf with rfl | ⟨r, rfl⟩ | ⟨d, r, r', rfl, rfl⟩
          · rfl
          · simp [isHexNum, show ¬ nn 10 = 120 from by decide, show ¬ nn 10 = 88 from by decide]
          · exact hx
      refine ⟨hx2, ?_, ?_⟩
      · unfold numN
        rw [hx, hx2]
        simp only [Bool.false_eq_true, if_false, h2, hN2]
      · unfold numI
        rw [hx, hx2]
        simp only [Bool.false_eq_true, if_false, h2]
  obtain ⟨k1, k2, k3⟩ := key
  refine ⟨?_, hu⟩
  have k4 : numB (c :: x ++ v) = numB (c :: x ++ u) := by unfold numB; rw [k1, k3]
  have k5 : numK (c :: x ++ v) = numK (c :: x ++ u) := by unfold numK; rw [k3]
  rw [num_eq, k2, k4, k5, hN, List.drop_left, hf.idp hu]
  rfl

theorem take_app {x : List UInt8} (u v : List UInt8) {k : Nat} (h : k ≤ x.length) : (x ++ u).take k = (x ++ v).take k := by
  rw [List.take_append_of_le_length h, List.take_append_of_le_length h]
theorem drop_app {x : List UInt8} (u : List UInt8) {k : Nat} (h : k ≤ x.length) : (x ++ u).drop k = x.drop k ++ u := List.drop_append_of_le_length h

theorem hexN_tail (n : Nat) (x u v : List UInt8) (h : n ≤ x.length) : hexN n (x ++ u) = hexN n (x ++ v) := by
  unfold hexN
  rw [take_app u v h]
  have h1 : n ≤ (x ++ u).length := by rw [List.length_append]; omega
  have h2 : n ≤ (x ++ v).length := by rw [List.length_append]; omega
  simp only [h1, h2]
theorem octN_tail (n : Nat) (x u v : List UInt8) (h : n ≤ x.length) : octN n (x ++ u) = octN n (x ++ v) := by
  unfold octN
  rw [take_app u v h]
  have h1 : n ≤ (x ++ u).length := by rw [List.length_append]; omega
  have h2 : n ≤ (x ++ v).length := by rw [List.length_append]; omega
  simp only [h1, h2]

theorem esc_ge {uni : Bool} {l bs : List UInt8} {k : Nat} (h : esc uni l = some (bs, k)) : 2 ≤ k := by
  cases l with
  | nil => cases h
  | cons c r =>
    rw [esc] at h
    split at h
    · cases h; omega
    · split at h
      · cases hh : hexN 2 r with
        | none => rw [hh] at h; cases h
        | some z => rw [hh] at h; cases h; omega
      · split at h
        · split at h
          · cases hh : hexN 4 r with
            | none => rw [hh] at h; cases h
            | some z =>
              rw [hh] at h
              simp only [Option.bind_some] at h
              split at h
              · cases h; omega
              · cases h
          · cases h
        · split at h
          · split at h
            · cases hh : hexN 8 r with
              | none => rw [hh] at h; cases h
              | some z =>
                rw [hh] at h
                simp only [Option.bind_some] at h
                split at h
                · cases h; omega
                · cases h
            · cases h
          · split at h
            · cases hh : octN 2 r with
              | none => rw [hh] at h; cases h
              | some z => rw [hh] at h; cases h; omega
            · cases h

theorem esc_tail {uni : Bool} {x u bs : List UInt8} {k : Nat} (v : List UInt8) (h : esc uni (x ++ u) = some (bs, k)) (hk : k ≤ x.length + 1) : esc uni (x ++ v) = some (bs, k) := by
  have h2 := esc_ge h
  cases x with
  | nil => simp only [List.length_nil] at hk; omega
  | cons c r =>
    simp only [List.length_cons] at hk
    simp only [List.cons_append] at h ⊢
    rw [esc] at h ⊢
    split at h
    · exact h
    · split at h
      · rename_i h1
        rw [if_pos h1]
        cases hh : hexN 2 (r ++ u) with
        | none => rw [hh] at h; cases h
        | some z =>
          rw [hh] at h
          have : k = 4 := by cases h; rfl
          rw [← hexN_tail 2 r u v (by omega), hh]
          exact h
      · rename_i h1
        rw [if_neg h1]
        split at h
        · rename_i h3
          rw [if_pos h3]
          split at h
          · rename_i h4
            rw [if_pos h4]
            cases hh : hexN 4 (r ++ u) with
            | none => rw [hh] at h; cases h
            | some z =>
              rw [hh] at h
              have : k = 6 := by
                simp only [Option.bind_some] at h
                split at h
                · cases h; rfl
                · cases h
              rw [← hexN_tail 4 r u v (by omega), hh]
              exact h
          · cases h
        · rename_i h3
          rw [if_neg h3]
          split at h
          · rename_i h4
            rw [if_pos h4]
            split at h
            · rename_i h5
              rw [if_pos h5]
              cases hh : hexN 8 (r ++ u) with
              | none => rw [hh] at h; cases h
              | some z =>
                rw [hh] at h
                have : k = 10 := by
                  simp only [Option.bind_some] at h
                  split at h
                  · cases h; rfl
                  · cases h
                rw [← hexN_tail 8 r u v (by omega), hh]
                exact h
            · cases h
          · rename_i h4
            rw [if_neg h4]
            split at h
            · rename_i h5
              rw [if_pos h5]
              cases hh : octN 2 (r ++ u) with
              | none => rw [hh] at h; cases h
              | some z =>
                rw [hh] at h
                have : k = 4 := by cases h; rfl
                rw [← octN_tail 2 r u v (by omega), hh]
                exact h
            · cases h

theorem qr_tail (q : List UInt8) (raw uni : Bool) (hq : 0 < q.length) : ∀ (m : Nat) (x u v bs : List UInt8) (n : Nat), x.length ≤ m → qr q raw uni (x ++ u) = (bs, n, .closed) → x.length = n + q.length → qr q raw uni (x ++ v) = (bs, n, .closed) := by
  intro m
  induction m with
  | zero => intro x u v bs n hm h hn; omega
  | succ m ih =>
    intro x u v bs n hm h hn
    cases x with
    | nil => simp only [List.length_nil] at hn; omega
    | cons c x =>
      simp only [List.length_cons] at hm hn
      have ht : ∀ w, (c :: (x ++ w)).take q.length = (c :: x).take q.length := fun w => List.take_append_of_le_length (l₁ := c :: x) (by simp only [List.length_cons]; omega)
      simp only [List.cons_append] at h ⊢
      rw [qr.eq_def] at h ⊢
      simp only [ht] at h ⊢
      split at h
      · rename_i h1
        rw [if_pos h1]
        exact h
      · rename_i h1
        rw [if_neg h1]
        split at h
        · rename_i h2
          rw [if_pos h2]
          split at h
          · rename_i h3
            rw [if_pos h3]
            cases x with
            | nil =>
              cases u with
              | nil => simp at h
              | cons d r2 =>
                simp only [List.nil_append, Prod.mk.injEq, List.length_nil] at h hn
                omega
            | cons d x =>
              simp only [List.cons_append, List.length_cons, Prod.mk.injEq] at h hn hm ⊢
              have := ih x u v (qr q raw uni (x ++ u)).1 (qr q raw uni (x ++ u)).2.1 (by omega) (Prod.ext rfl (Prod.ext rfl h.2.2)) (by omega)
              rw [this]
              exact ⟨h.1, h.2.1, rfl⟩
          · rename_i h3
            rw [if_neg h3]
            cases he : esc uni (x ++ u) with
            | none => rw [he] at h; simp at h
            | some y =>
              obtain ⟨b2, k⟩ := y
              rw [he] at h
              simp only [Prod.mk.injEq] at h
              have hk := esc_ge he
              rw [esc_tail v he (by omega)]
              simp only [Prod.mk.injEq]
              have hle : k - 1 ≤ x.length := by omega
              rw [drop_app u hle] at h
              rw [drop_app v hle]
              have := ih (x.drop (k - 1)) u v (qr q raw uni (x.drop (k - 1) ++ u)).1 (qr q raw uni (x.drop (k - 1) ++ u)).2.1 (by rw [List.length_drop]; omega) (Prod.ext rfl (Prod.ext rfl h.2.2)) (by rw [List.length_drop]; omega)
              rw [this]
              exact ⟨h.1, h.2.1, rfl⟩
        · rename_i h2
          rw [if_neg h2]
          split at h
          · simp at h
          · rename_i h3
            rw [if_neg h3]
            simp only [Prod.mk.injEq] at h ⊢
            have := ih x u v (qr q raw uni (x ++ u)).1 (qr q raw uni (x ++ u)).2.1 (by omega) (Prod.ext rfl (Prod.ext rfl h.2.2)) (by omega)
            rw [this]
            exact ⟨h.1, h.2.1, rfl⟩

theorem qtok_tail (q : List UInt8) (raw uni ident : Bool) (kind : ByteArray) (x u v : List UInt8) (t : Tk) (hq : 0 < q.length) (h : qtok q raw uni ident kind (x ++ u) = .ok t) (hn : t.n = x.length) : qtok q raw uni ident kind (x ++ v) = .ok t ∧ 2 * q.length ≤ x.length := by
  unfold qtok at h
  split at h
  · rename_i bs n hqr
    split at h
    · cases h
    · rename_i hb
      injection h with h
      have hN : q.length + n + q.length = x.length := by rw [← hn, ← h]
      have hle : q.length ≤ x.length := by omega
      rw [drop_app u hle] at hqr
      have := qr_tail q raw uni hq _ (x.drop q.length) u v bs n (Nat.le_refl _) hqr (by rw [List.length_drop]; omega)
      refine ⟨?_, by omega⟩
      unfold qtok
      rw [drop_app v hle, this]
      simp only
      rw [if_neg hb, h]
  · cases h
  · cases h
  · cases h

theorem delim_tail (c d : UInt8) (x u v : List UInt8) (hc : nn c = 34 ∨ nn c = 39) (hf : Fol u v) (h : 2 * (delim (c :: d :: x ++ u)).length ≤ (c :: d :: x).length) : delim (c :: d :: x ++ v) = delim (c :: d :: x ++ u) := by
  cases x with
  | cons e x => rfl
  | nil =>
    rcases hf with rfl | ⟨r, rfl⟩ | ⟨e, r, r', rfl, rfl⟩
    · cases u with
      | nil => rfl
      | cons e r =>
        simp only [List.cons_append, List.nil_append, delim, List.length_cons, List.length_nil] at h ⊢
        split at h
        · simp at h
        · rename_i h1; rw [if_neg h1]
    · have e10 : (nn c == nn 10) = false := by
        rw [beq_eq_false_iff_ne, show nn 10 = 10 from rfl]; omega
      have e1 : delim (c :: d :: [] ++ 10 :: r) = [c] := by
        simp only [List.cons_append, List.nil_append, delim, e10, Bool.and_false, Bool.false_eq_true, if_false]
      rw [e1]
      cases u with
      | nil => rfl
      | cons e r =>
        simp only [List.cons_append, List.nil_append, delim, List.length_cons, List.length_nil] at h ⊢
        split at h
        · simp at h
        · rename_i h1; rw [if_neg h1]
    · rfl

theorem pre_tail : ∀ (f : Nat) (b r : Bool) (x u v : List UInt8) (i : Nat) (y : Bool × Bool), pre f b r (x ++ u) = some (i, y) → i < x.length → pre f b r (x ++ v) = some (i, y) ∧ ∃ c z, x.drop i = c :: z ∧ (nn c = 34 ∨ nn c = 39) := by
  intro f
  induction f with
  | zero => intro b r x u v i y h; cases h
  | succ f ih =>
    intro b r x u v i y h hi
    cases x with
    | nil => simp at hi
    | cons c x =>
      simp only [List.cons_append, List.length_cons] at h hi ⊢
      unfold pre at h ⊢
      split at h
      · rename_i h1
        rw [if_pos h1]
        cases hp : pre f true r (x ++ u) with
        | none => rw [hp] at h; cases h
        | some z =>
          rw [hp] at h
          simp only [Option.map_some, Option.some.injEq, Prod.mk.injEq] at h
          obtain ⟨h2, h3⟩ := ih true r x u v z.1 z.2 hp (by omega)
          rw [h2]
          refine ⟨by simp [← h.1, ← h.2], ?_⟩
          rw [← h.1]
          exact h3
      · rename_i h1
        rw [if_neg h1]
        split at h
        · rename_i h2
          rw [if_pos h2]
          cases hp : pre f b true (x ++ u) with
          | none => rw [hp] at h; cases h
          | some z =>
            rw [hp] at h
            simp only [Option.map_some, Option.some.injEq, Prod.mk.injEq] at h
            obtain ⟨h2, h3⟩ := ih b true x u v z.1 z.2 hp (by omega)
            rw [h2]
            refine ⟨by simp [← h.1, ← h.2], ?_⟩
            rw [← h.1]
            exact h3
        · rename_i h2
          rw [if_neg h2]
          split at h
          · rename_i h3
            rw [if_pos h3]
            simp only [Option.some.injEq, Prod.mk.injEq] at h
            refine ⟨by simp [← h.1, ← h.2], c, x, by rw [← h.1]; rfl, ?_⟩
            simpa using h3
          · cases h

theorem pre_noneP : ∀ (f : Nat) (b r : Bool) (x u v : List UInt8), (∀ c ∈ x, idp (nn c) = true) → idpHead u = false → Fol u v → pre f b r (x ++ u) = none → pre f b r (x ++ v) = none := by
  intro f
  induction f with
  | zero => intro b r x u v _ _ _ _; rfl
  | succ f ih =>
    intro b r x u v hx hu hf h
    cases x with
    | nil =>
      simp only [List.nil_append] at h ⊢
      rcases hf with rfl | ⟨z, rfl⟩ | ⟨c, z, z', rfl, rfl⟩
      · rfl
      · unfold pre
        rw [show nn 10 = 10 from rfl]
        simp
      · have hc := idp_letters (c := nn c) hu
        unfold pre at h ⊢
        simp only [Bool.or_self, Bool.and_false, Bool.false_eq_true, if_false, beq_eq_false_iff_ne.2 hc.2.2.1, beq_eq_false_iff_ne.2 hc.2.2.2.1, beq_eq_false_iff_ne.2 hc.2.2.2.2.1, beq_eq_false_iff_ne.2 hc.2.2.2.2.2] at h ⊢
        split at h
        · cases h
        · rename_i h1; rw [if_neg h1]
    | cons c x =>
      simp only [List.cons_append] at h ⊢
      have hx2 : ∀ d ∈ x, idp (nn d) = true := fun d hd => hx d (List.mem_cons_of_mem _ hd)
      unfold pre at h ⊢
      split at h
      · rename_i h1
        rw [if_pos h1]
        cases hp : pre f true r (x ++ u) with
        | none => rw [ih true r x u v hx2 hu hf hp]; rfl
        | some z => rw [hp] at h; cases h
      · rename_i h1
        rw [if_neg h1]
        split at h
        · rename_i h2
          rw [if_pos h2]
          cases hp : pre f b true (x ++ u) with
          | none => rw [ih b true x u v hx2 hu hf hp]; rfl
          | some z => rw [hp] at h; cases h
        · rename_i h2
          rw [if_neg h2]
          split at h
          · cases h
          · rename_i h3; rw [if_neg h3]

theorem two_line (c : Int) : two c 10 = false := by
  unfold two
  simp

theorem twoHead_tail (c : UInt8) {u v : List UInt8} (hf : Fol u v) (h : twoHead c u = none) : twoHead c v = none := by
  rcases hf with rfl | ⟨r, rfl⟩ | ⟨d, r, r', rfl, rfl⟩
  · rfl
  · simp [twoHead, show nn 10 = 10 from rfl, two_line]
  · exact h

theorem word_tail (x u v : List UInt8) (t : Tk) (hf : Fol u v) (h : word (x ++ u) = .ok t) (hn : t.n = x.length) : word (x ++ v) = .ok t ∧ (∀ c ∈ x, idp (nn c) = true) ∧ idpHead u = false := by
  have hl : idLen (x ++ u) = x.length := by
    unfold word at h
    simp only at h
    split at h
    · injection h with h; rw [← hn, ← h]; rfl
    · injection h with h; rw [← hn, ← h]
  obtain ⟨h1, h2⟩ := idLen_full x u hl
  have hl2 := idLen_app x v h1 (hf.idp h2)
  refine ⟨?_, h1, h2⟩
  unfold word at h ⊢
  simp only [hl, hl2, List.take_left] at h ⊢
  exact h

theorem tok_tail (last : ByteArray) (x u v : List UInt8) (t : Tk) (hf : Fol u v) (hx : x ≠ []) (h : tok last (x ++ u) = .ok t) (hn : t.n = x.length) : tok last (x ++ v) = .ok t := by
  cases x with
  | nil => exact absurd rfl hx
  | cons c x =>
    simp only [List.cons_append] at h ⊢
    rw [tok] at h ⊢
    split at h
    · rename_i h1
      rw [if_pos h1]
      exact h
    · rename_i h1
      rw [if_neg h1]
      split at h
      · rename_i h2
        rw [if_pos h2]
        split at h
        · rename_i h3
          obtain ⟨h4, h5⟩ := num_tail c x u v t hf h hn
          have h6 : (!dotted last && dgHead (x ++ v)) = true := by
            cases x with
            | nil => simp only [List.nil_append, dgHead_idp h5, Bool.and_false] at h3; cases h3
            | cons d x => exact h3
          rw [if_pos h6]
          exact h4
        · rename_i h3
          injection h with h
          have hxl : x = [] := by
            rw [← h] at hn
            simp only [List.length_cons] at hn
            exact List.eq_nil_of_length_eq_zero (by omega)
          subst hxl
          simp only [List.nil_append] at h3 ⊢
          have h6 : ¬ (!dotted last && dgHead v) = true := by
            intro h4
            simp only [Bool.and_eq_true] at h4
            apply h3
            rw [h4.1]
            cases hd : dgHead u with
            | true => rfl
            | false => rw [hf.dg hd] at h4; simp at h4
          rw [if_neg h6, h]
      · rename_i h2
        rw [if_neg h2]
        split at h
        · rename_i h3
          rw [if_pos h3]
          split at h
          · rename_i d hd
            injection h with h
            have hxl : x.length = 1 := by
              rw [← h] at hn
              simp only [plain, List.length_cons] at hn
              omega
            cases x with
            | nil => simp at hxl
            | cons e x =>
              have : twoHead c (e :: x ++ v) = some d := hd
              rw [this]
              simp only [h]
          · rename_i hd
            split at h
            · rename_i h4
              injection h with h
              simp only [Bool.and_eq_true] at h4
              have hl : idLen (x ++ u) = x.length := by
                rw [← h] at hn
                simp only [List.length_cons] at hn
                omega
              obtain ⟨h5, h6⟩ := idLen_full x u hl
              have hl2 := idLen_app x v h5 (hf.idp h6)
              cases x with
              | nil =>
                exfalso
                have h7 := h4.2
                cases u with
                | nil => cases h7
                | cons e r =>
                  have h8 : idp (nn e) = false := h6
                  have h9 : ids (nn e) = true := h7
                  unfold idp at h8
                  rw [h9] at h8
                  simp at h8
              | cons e x =>
                have h7 : twoHead c (e :: x ++ v) = none := hd
                have h8 : (nn c == 64 && idsHead (e :: x ++ v)) = true := by simp only [Bool.and_eq_true]; exact h4
                rw [h7]
                simp only [h8, if_true, hl2, List.take_left]
                rw [← h, hl, List.take_left]
            · rename_i h4
              injection h with h
              have hxl : x = [] := by
                rw [← h] at hn
                simp only [plain, List.length_cons] at hn
                exact List.eq_nil_of_length_eq_zero (by omega)
              subst hxl
              simp only [List.nil_append] at h4 hd ⊢
              rw [twoHead_tail c hf hd]
              have h6 : ¬ (nn c == 64 && idsHead v) = true := by
                intro h5
                simp only [Bool.and_eq_true] at h5
                apply h4
                rw [h5.1]
                cases hi : idsHead u with
                | true => rfl
                | false => rw [hf.ids hi] at h5; simp at h5
              simp only
              rw [if_neg h6, h]
        · rename_i h3
          rw [if_neg h3]
          split at h
          · rename_i h4
            rw [if_pos h4]
            exact (qtok_tail [96] false true true kIdent (c :: x) u v t (by simp) h hn).1
          · rename_i h4
            rw [if_neg h4]
            split at h
            · rename_i h5
              rw [if_pos h5]
              exact (num_tail c x u v t hf h hn).1
            · rename_i h5
              rw [if_neg h5]
              split at h
              · rename_i i b w hp
                obtain ⟨y, hy, rfl⟩ := Out.shift_ok h
                obtain ⟨d0, v0, hv0⟩ := pre_drop _ _ _ _ _ _ hp
                have hg := qtok_fine _ _ _ _ _ _ _ (by rw [hv0]; exact delim_pos) (by split; exact kBytes_ne; exact kString_ne) hy
                simp only [List.length_cons] at hn
                have hi : i < (c :: x).length := by have := hg.1; simp only [List.length_cons]; omega
                obtain ⟨hp2, d, z, hd, hq⟩ := pre_tail 3 false false (c :: x) u v i (b, w) hp hi
                have hp3 : pre 3 false false (c :: (x ++ v)) = some (i, b, w) := hp2
                rw [hp3]
                simp only
                have e1 : ∀ r, (c :: (x ++ r)).drop i = d :: z ++ r := fun r => by
                  rw [← hd, ← drop_app (x := c :: x) r (Nat.le_of_lt hi)]
                  rfl
                rw [e1] at hy ⊢
                have hzl : (d :: z).length = (c :: x).length - i := by rw [← hd, List.length_drop]
                simp only [List.length_cons] at hzl
                have hyn : y.n = (d :: z).length := by simp only [List.length_cons]; omega
                obtain ⟨h6, h7⟩ := qtok_tail _ _ _ _ _ (d :: z) u v y (by exact delim_pos) hy hyn
                cases z with
                | nil =>
                  have := delim_pos (c := d) (l := u)
                  simp only [List.cons_append, List.nil_append, List.length_cons, List.length_nil] at h7
                  omega
                | cons e z =>
                  have h8 := delim_tail d e z u v hq hf h7
                  rw [h8, h6]
                  rfl
              · rename_i hp
                split at h
                · rename_i h6
                  obtain ⟨h7, h8, h9⟩ := word_tail (c :: x) u v t hf h hn
                  have hp2 : pre 3 false false (c :: (x ++ v)) = none := pre_noneP 3 false false (c :: x) u v h8 h9 hf hp
                  rw [hp2]
                  simp only
                  rw [if_pos h6]
                  exact h7
                · cases h

end Go.Proofs.YtngofbhlhcalpaaGreatDoor.lexer

namespace Go.Proofs.YtngofbhlhcalpaaGreatDoor.lexer
open Go.RowKit Go.Proofs.YtngofbhlhcalpaaGreatDoor.gen
open Go.Lib (headSpace spaceSeqs)

theorem pref_line2 : ∀ (t l r : List UInt8), (10 : UInt8) ∉ t → t.isPrefixOf (l ++ 10 :: r) = t.isPrefixOf l := by
  intro t
  induction t with
  | nil => intro l r _; simp
  | cons a t ih =>
    intro l r h
    cases l with
    | nil =>
      have : ¬ a = 10 := fun e => h (by rw [e]; exact List.mem_cons_self ..)
      simp [List.isPrefixOf, this]
    | cons c l =>
      simp only [List.cons_append, List.isPrefixOf]
      rw [ih l r (fun hm => h (List.mem_cons_of_mem _ hm))]
theorem pref_line (t l r : List UInt8) (h : (10 : UInt8) ∉ t.tail) (hl : l ≠ []) : t.isPrefixOf (l ++ 10 :: r) = t.isPrefixOf l := by
  cases l with
  | nil => exact absurd rfl hl
  | cons c l =>
    cases t with
    | nil => simp
    | cons a t =>
      simp only [List.cons_append, List.isPrefixOf]
      rw [pref_line2 t l r h]

theorem find_congr {α : Type} {p q : α → Bool} : ∀ (l : List α), (∀ x ∈ l, p x = q x) → l.find? p = l.find? q := by
  intro l
  induction l with
  | nil => intro _; rfl
  | cons a l ih =>
    intro h
    simp only [List.find?_cons]
    rw [h a (List.mem_cons_self ..), ih (fun x hx => h x (List.mem_cons_of_mem _ hx))]

theorem seqs_line : ∀ t ∈ spaceSeqs, (10 : UInt8) ∉ t.tail := by decide +kernel
theorem seqs_pos : ∀ t ∈ spaceSeqs, 0 < t.length := by decide +kernel

theorem headSpace_line (l r : List UInt8) (hl : l ≠ []) : headSpace (l ++ 10 :: r) = headSpace l := by
  unfold headSpace
  rw [find_congr spaceSeqs (fun t ht => pref_line t l r (seqs_line t ht) hl)]
theorem headSpace_ten (r : List UInt8) : headSpace (10 :: r) = 1 := by
  simp [headSpace, spaceSeqs, List.isPrefixOf]

theorem isPrefixOf_app : ∀ (t x u : List UInt8), t.isPrefixOf x = true → t.isPrefixOf (x ++ u) = true := by
  intro t
  induction t with
  | nil => intro x u _; simp
  | cons a t ih =>
    intro x u h
    cases x with
    | nil => simp [List.isPrefixOf] at h
    | cons c x =>
      simp only [List.isPrefixOf, Bool.and_eq_true, List.cons_append] at h ⊢
      exact ⟨h.1, ih x u h.2⟩

theorem headSpace_none {l : List UInt8} (h : headSpace l = 0) : spaceSeqs.find? (·.isPrefixOf l) = none := by
  unfold headSpace at h
  cases hf : spaceSeqs.find? (·.isPrefixOf l) with
  | none => rfl
  | some t =>
    rw [hf] at h
    have h2 := seqs_pos t (List.mem_of_find?_eq_some hf)
    have h3 : t.length = 0 := h
    omega
theorem headSpace_pre (x u : List UInt8) (h : headSpace (x ++ u) = 0) : headSpace x = 0 := by
  have h1 := headSpace_none h
  rw [List.find?_eq_none] at h1
  unfold headSpace
  have : spaceSeqs.find? (·.isPrefixOf x) = none := by
    rw [List.find?_eq_none]
    intro t ht hp
    exact h1 t ht (isPrefixOf_app t x u hp)
  rw [this]
  rfl

theorem spc_zeroP {l : List UInt8} (h : headSpace l = 0) : spc l = 0 := by rw [spc.eq_def, dif_pos h]
theorem spc_succ {l : List UInt8} (h : ¬ headSpace l = 0) : spc l = headSpace l + spc (l.drop (headSpace l)) := by rw [spc.eq_def, dif_neg h]
theorem spc_nil : spc [] = 0 := spc_zeroP (by have := headSpace_le []; simp at this; exact this)
theorem spc_ten (r : List UInt8) : spc (10 :: r) = 1 + spc r := by
  rw [spc_succ (by rw [headSpace_ten]; simp), headSpace_ten]; rfl

theorem spc_end : ∀ (m : Nat) (l : List UInt8), l.length ≤ m → headSpace (l.drop (spc l)) = 0 := by
  intro m
  induction m with
  | zero =>
    intro l h
    obtain rfl : l = [] := List.eq_nil_of_length_eq_zero (by omega)
    have := headSpace_le []
    rw [List.drop_nil]
    simp at this
    exact this
  | succ m ih =>
    intro l h
    by_cases h0 : headSpace l = 0
    · rw [spc_zeroP h0]; exact h0
    · rw [spc_succ h0, ← List.drop_drop]
      have := headSpace_le l
      exact ih _ (by rw [List.length_drop]; omega)

theorem spc_line : ∀ (m : Nat) (l r : List UInt8), l.length ≤ m → (spc l < l.length → spc (l ++ 10 :: r) = spc l) ∧ (spc l = l.length → spc (l ++ 10 :: r) = l.length + 1 + spc r) := by
  intro m
  induction m with
  | zero =>
    intro l r h
    obtain rfl : l = [] := List.eq_nil_of_length_eq_zero (by omega)
    refine ⟨fun h => by simp at h, fun _ => ?_⟩
    rw [List.nil_append, spc_ten, List.length_nil]
  | succ m ih =>
    intro l r h
    cases l with
    | nil => exact ih [] r (Nat.zero_le _)
    | cons c l =>
      have hl := headSpace_line (c :: l) r (by simp)
      by_cases h0 : headSpace (c :: l) = 0
      · rw [spc_zeroP h0]
        exact ⟨fun _ => spc_zeroP (by rw [hl]; exact h0), fun e => (by simp at e)⟩
      · have hle := headSpace_le (c :: l)
        obtain ⟨h1, h2⟩ := ih ((c :: l).drop (headSpace (c :: l))) r (by rw [List.length_drop]; omega)
        have e2 : spc (c :: l ++ 10 :: r) = headSpace (c :: l) + spc ((c :: l).drop (headSpace (c :: l)) ++ 10 :: r) := by
          rw [spc_succ (l := c :: l ++ 10 :: r) (by rw [hl]; exact h0), hl, drop_app _ hle]
        rw [spc_succ h0, e2]
        rw [List.length_drop] at h1 h2
        exact ⟨fun h => by rw [h1 (by omega)], fun h => by rw [h2 (by omega)]; omega⟩

theorem headIs_line (k : Int) (l r : List UInt8) (h : k ≠ 10) : headIs k (l ++ 10 :: r) = headIs k l := by
  cases l with
  | nil =>
    show (nn 10 == k) = false
    rw [beq_eq_false_iff_ne, show nn 10 = 10 from rfl]
    exact fun e => h e.symm
  | cons c l => rfl

theorem lineLen_line (l r : List UInt8) : lineLen (l ++ 10 :: r) = lineLen l ∨ (lineLen l = l.length ∧ lineLen (l ++ 10 :: r) = l.length + 1) := by
  induction l with
  | nil => right; exact ⟨rfl, by simp [lineLen, show nn 10 = 10 from rfl]⟩
  | cons c l ih =>
    simp only [List.cons_append, lineLen, List.length_cons]
    split
    · left; rfl
    · rcases ih with h | ⟨h1, h2⟩
      · left; rw [h]
      · right; exact ⟨by rw [h1], by rw [h2]⟩

theorem blockEnd_line (l r : List UInt8) : ∀ n, blockEnd l = some n → blockEnd (l ++ 10 :: r) = some n := by
  induction l with
  | nil => intro n h; cases h
  | cons c l ih =>
    intro n h
    simp only [List.cons_append, blockEnd] at h ⊢
    rw [headIs_line 47 l r (by decide)]
    split at h
    · rename_i h1; rw [if_pos h1]; exact h
    · rename_i h1
      rw [if_neg h1]
      cases hb : blockEnd l with
      | none => rw [hb] at h; cases h
      | some m => rw [hb] at h; rw [ih m hb]; exact h

theorem com_line_no (l r : List UInt8) (hl : l ≠ []) (h : com l = .no) : com (l ++ 10 :: r) = .no := by
  cases l with
  | nil => exact absurd rfl hl
  | cons c l =>
    simp only [List.cons_append, com, headIs_line 45 l r (by decide), headIs_line 42 l r (by decide)] at h ⊢
    split at h
    · cases h
    · rename_i h1
      rw [if_neg h1]
      split at h
      · split at h <;> cases h
      · rename_i h2; rw [if_neg h2]

theorem com_line_ok (l r : List UInt8) (n : Nat) (h : com l = .ok n) : com (l ++ 10 :: r) = .ok n ∨ (n = l.length ∧ com (l ++ 10 :: r) = .ok (n + 1)) := by
  cases l with
  | nil => cases h
  | cons c l =>
    simp only [List.cons_append, com, headIs_line 45 l r (by decide), headIs_line 42 l r (by decide)] at h ⊢
    split at h
    · rename_i h1
      rw [if_pos h1]
      cases h
      rcases lineLen_line (c :: l) r with h2 | ⟨h2, h3⟩
      · left; rw [← List.cons_append, h2]
      · right; rw [← List.cons_append, h3, h2]; exact ⟨rfl, rfl⟩
    · rename_i h1
      rw [if_neg h1]
      split at h
      · rename_i h2
        rw [if_pos h2]
        cases hb : blockEnd (c :: l) with
        | none => rw [hb] at h; cases h
        | some m =>
          rw [hb] at h
          left
          rw [← List.cons_append, blockEnd_line _ r m hb]
          exact h
      · cases h

theorem com_pre (x u : List UInt8) (h : com (x ++ u) = .no) : com x = .no := by
  have hh : ∀ (k : Int) (x : List UInt8), headIs k x = true → headIs k (x ++ u) = true := by
    intro k x h
    cases x with
    | nil => cases h
    | cons c x => exact h
  cases x with
  | nil => rfl
  | cons c x =>
    simp only [List.cons_append, com] at h ⊢
    split at h
    · cases h
    · rename_i h1
      split at h
      · split at h <;> cases h
      · rename_i h2
        have e1 : ¬ (nn c == 35 || nn c == 45 && headIs 45 x) = true := by
          intro e
          apply h1
          simp only [Bool.or_eq_true, Bool.and_eq_true] at e ⊢
          rcases e with e | e
          · exact .inl e
          · exact .inr ⟨e.1, hh _ _ e.2⟩
        have e2 : ¬ (nn c == 47 && headIs 42 x) = true := by
          intro e
          apply h2
          simp only [Bool.and_eq_true] at e ⊢
          exact ⟨e.1, hh _ _ e.2⟩
        rw [if_neg e1, if_neg e2]

theorem gap_nil : gap [] = ([], 0, false) := by
  have := gap_no [] (by rw [List.drop_nil]; rfl)
  rw [this, spc_nil]

/-- Behind what stands ahead of a token no blank and no comment begins. -/
theorem gap_end : ∀ (m : Nat) (l : List UInt8), l.length ≤ m → (gap l).2.2 = false → headSpace (l.drop (gapLen (gap l))) = 0 ∧ com (l.drop (gapLen (gap l))) = .no := by
  intro m
  induction m with
  | zero =>
    intro l h _
    obtain rfl : l = [] := List.eq_nil_of_length_eq_zero (by omega)
    have := headSpace_le []
    rw [List.drop_nil]
    simp at this
    exact ⟨this, rfl⟩
  | succ m ih =>
    intro l h ho
    cases hc : com (l.drop (spc l)) with
    | no =>
      rw [gap_no l hc]
      simp only [gapLen, comsLen, Nat.zero_add]
      exact ⟨spc_end _ l (Nat.le_refl _), hc⟩
    | opened => rw [gap_opened l hc] at ho; cases ho
    | ok n =>
      have h2 := com_le _ _ hc
      rw [List.length_drop] at h2
      have hg := gap_ok l n hc
      have hi := ih (l.drop (spc l + n)) (by rw [List.length_drop]; omega) (by rw [hg] at ho; exact ho)
      rw [hg]
      simp only [gapLen, comsLen]
      rw [show spc l + n + comsLen (gap (l.drop (spc l + n))).1 + (gap (l.drop (spc l + n))).2.1 = (spc l + n) + gapLen (gap (l.drop (spc l + n))) from by simp only [gapLen]; omega, ← List.drop_drop]
      exact hi

theorem gap_zero {l : List UInt8} (h1 : headSpace l = 0) (h2 : com l = .no) : gap l = ([], 0, false) := by
  have h3 := spc_zeroP h1
  have := gap_no l (by rw [h3]; exact h2)
  rw [this, h3]

/-- With a line's end and another text behind. -/
theorem gap_line : ∀ (m : Nat) (l r : List UInt8), l.length ≤ m → (gap l).2.2 = false →
    (gapLen (gap l) < l.length → gap (l ++ 10 :: r) = gap l) ∧
    (gapLen (gap l) = l.length → gapLen (gap (l ++ 10 :: r)) = l.length + 1 + gapLen (gap r) ∧ (gap (l ++ 10 :: r)).2.2 = (gap r).2.2) := by
  intro m
  induction m with
  | zero =>
    intro l r h ho
    obtain rfl : l = [] := List.eq_nil_of_length_eq_zero (by omega)
    refine ⟨fun h => by simp at h, fun _ => ?_⟩
    rw [List.nil_append]
    have hs := spc_ten r
    have hd : (10 :: r).drop (spc (10 :: r)) = r.drop (spc r) := by rw [hs, Nat.add_comm 1]; rfl
    cases hc : com (r.drop (spc r)) with
    | no =>
      rw [gap_no (10 :: r) (by rw [hd]; exact hc), gap_no r hc]
      simp only [gapLen, comsLen, hs, List.length_nil]
      exact ⟨by omega, trivial⟩
    | opened =>
      rw [gap_opened (10 :: r) (by rw [hd]; exact hc), gap_opened r hc]
      simp only [gapLen, comsLen, hs, List.length_nil]
      exact ⟨by omega, trivial⟩
    | ok n =>
      rw [gap_ok (10 :: r) n (by rw [hd]; exact hc), gap_ok r n hc]
      have e : (10 :: r).drop (1 + spc r + n) = r.drop (spc r + n) := by rw [show 1 + spc r + n = (spc r + n) + 1 from by omega]; rfl
      simp only [gapLen, comsLen, hs, e, List.length_nil]
      exact ⟨by omega, trivial⟩
  | succ m ih =>
    intro l r h ho
    have hsl := spc_line _ l r (Nat.le_refl _)
    have hsle := spc_le l
    cases hc : com (l.drop (spc l)) with
    | no =>
      have hg := gap_no l hc
      have hgl : gapLen (gap l) = spc l := by rw [hg]; simp [gapLen, comsLen]
      rw [hgl]
      refine ⟨fun hlt => ?_, fun he => ?_⟩
      · have hs := hsl.1 hlt
        have hne : l.drop (spc l) ≠ [] := by
          intro e
          have := congrArg List.length e
          rw [List.length_drop] at this
          simp at this
          omega
        rw [gap_no (l ++ 10 :: r) (by rw [hs, drop_app _ hsle]; exact com_line_no _ r hne hc), hs, hg]
      · have hs := hsl.2 he
        have hd : (l ++ 10 :: r).drop (l.length + 1 + spc r) = r.drop (spc r) := by
          rw [show l.length + 1 + spc r = l.length + (1 + spc r) from by omega, ← List.drop_drop, List.drop_left, Nat.add_comm 1]; rfl
        cases hc2 : com (r.drop (spc r)) with
        | no =>
          rw [gap_no (l ++ 10 :: r) (by rw [hs, hd]; exact hc2), gap_no r hc2]
          simp only [gapLen, comsLen, hs]
          exact ⟨by omega, trivial⟩
        | opened =>
          rw [gap_opened (l ++ 10 :: r) (by rw [hs, hd]; exact hc2), gap_opened r hc2]
          simp only [gapLen, comsLen, hs]
          exact ⟨by omega, trivial⟩
        | ok n =>
          rw [gap_ok (l ++ 10 :: r) n (by rw [hs, hd]; exact hc2), gap_ok r n hc2]
          have e : (l ++ 10 :: r).drop (l.length + 1 + spc r + n) = r.drop (spc r + n) := by
            rw [← List.drop_drop, hd, List.drop_drop]
          simp only [gapLen, comsLen, hs, e]
          exact ⟨by omega, trivial⟩
    | opened => rw [gap_opened l hc] at ho; cases ho
    | ok n =>
      have h2 := com_le _ _ hc
      rw [List.length_drop] at h2
      have hlt : spc l < l.length := by omega
      have hs := hsl.1 hlt
      have hg := gap_ok l n hc
      have hgl : gapLen (gap l) = spc l + n + gapLen (gap (l.drop (spc l + n))) := by rw [hg]; simp only [gapLen, comsLen]; omega
      have hle : spc l + n ≤ l.length := by omega
      rcases com_line_ok (l.drop (spc l)) r n hc with h3 | ⟨h3, h4⟩
      · have hg2 := gap_ok (l ++ 10 :: r) n (by rw [hs, drop_app _ hsle]; exact h3)
        rw [hs, drop_app _ hle] at hg2
        obtain ⟨i1, i2⟩ := ih (l.drop (spc l + n)) r (by rw [List.length_drop]; omega) (by rw [hg] at ho; exact ho)
        rw [List.length_drop] at i1 i2
        refine ⟨fun hx => ?_, fun hx => ?_⟩
        · rw [hg2, i1 (by omega), ← hg]
        · obtain ⟨j1, j2⟩ := i2 (by omega)
          rw [hg2]
          simp only [gapLen, comsLen] at j1 ⊢
          exact ⟨by omega, j2⟩
      · rw [List.length_drop] at h3
        have hnil : l.drop (spc l + n) = [] := List.drop_eq_nil_of_le (by omega)
        have hgn : gapLen (gap (l.drop (spc l + n))) = 0 := by rw [hnil, gap_nil]; rfl
        refine ⟨fun hx => by omega, fun hx => ?_⟩
        have hg2 := gap_ok (l ++ 10 :: r) (n + 1) (by rw [hs, drop_app _ hsle]; exact h4)
        have e : (l ++ 10 :: r).drop (spc l + (n + 1)) = r := by
          rw [show spc l + (n + 1) = l.length + 1 from by omega, ← List.drop_drop, List.drop_left]; rfl
        rw [hs, e] at hg2
        rw [hg2]
        simp only [gapLen, comsLen]
        exact ⟨by omega, trivial⟩

end Go.Proofs.YtngofbhlhcalpaaGreatDoor.lexer

namespace Go.Proofs.YtngofbhlhcalpaaGreatDoor.lexer
open Go.RowKit Go.Proofs.YtngofbhlhcalpaaGreatDoor.gen
open Go.Proofs.YtngofbhlhcalpaaGreatDoor.upper (up isKw upb)

theorem hexN_lenP {n u : Nat} {l : List UInt8} (h : hexN n l = some u) : n ≤ l.length := by
  unfold hexN at h
  split at h
  · rename_i h1; exact h1.1
  · cases h
theorem octN_lenP {n u : Nat} {l : List UInt8} (h : octN n l = some u) : n ≤ l.length := by
  unfold octN at h
  split at h
  · rename_i h1; exact h1.1
  · cases h

theorem esc_len {uni : Bool} {l bs : List UInt8} {k : Nat} (h : esc uni l = some (bs, k)) : k ≤ l.length + 1 := by
  cases l with
  | nil => cases h
  | cons c r =>
    rw [List.length_cons]
    rw [esc] at h
    split at h
    · cases h; omega
    · split at h
      · cases hh : hexN 2 r with
        | none => rw [hh] at h; cases h
        | some z => have := hexN_lenP hh; rw [hh] at h; cases h; omega
      · split at h
        · split at h
          · cases hh : hexN 4 r with
            | none => rw [hh] at h; cases h
            | some z =>
              have := hexN_lenP hh
              rw [hh] at h
              simp only [Option.bind_some] at h
              split at h
              · cases h; omega
              · cases h
          · cases h
        · split at h
          · split at h
            · cases hh : hexN 8 r with
              | none => rw [hh] at h; cases h
              | some z =>
                have := hexN_lenP hh
                rw [hh] at h
                simp only [Option.bind_some] at h
                split at h
                · cases h; omega
                · cases h
            · cases h
          · split at h
            · cases hh : octN 2 r with
              | none => rw [hh] at h; cases h
              | some z => have := octN_lenP hh; rw [hh] at h; cases h; omega
            · cases h

theorem qr_len (q : List UInt8) (raw uni : Bool) : ∀ (m : Nat) (l : List UInt8), l.length ≤ m → (qr q raw uni l).2.1 ≤ l.length ∧ ((qr q raw uni l).2.2 = .closed → (qr q raw uni l).2.1 + q.length ≤ l.length) := by
  intro m
  induction m with
  | zero =>
    intro l h
    obtain rfl : l = [] := List.eq_nil_of_length_eq_zero (by omega)
    rw [qr.eq_def]
    exact ⟨Nat.zero_le _, fun h => by cases h⟩
  | succ m ih =>
    intro l h
    cases l with
    | nil => exact ih [] (Nat.zero_le _)
    | cons c r =>
      simp only [List.length_cons] at h ⊢
      rw [qr.eq_def]
      simp only
      split
      · rename_i h1
        refine ⟨Nat.zero_le _, fun _ => ?_⟩
        have h2 := congrArg List.length (eq_of_beq h1)
        rw [List.length_take, List.length_cons] at h2
        show 0 + q.length ≤ _
        omega
      · split
        · split
          · cases r with
            | nil => exact ⟨Nat.zero_le _, fun h => by cases h⟩
            | cons d r2 =>
              simp only [List.length_cons] at h ⊢
              obtain ⟨h1, h2⟩ := ih r2 (by omega)
              exact ⟨by omega, fun h => by have := h2 h; omega⟩
          · cases he : esc uni r with
            | none => exact ⟨Nat.zero_le _, fun h => by cases h⟩
            | some y =>
              obtain ⟨bs, k⟩ := y
              have h1 := esc_ge he
              have h2 := esc_len he
              simp only
              obtain ⟨h3, h4⟩ := ih (r.drop (k - 1)) (by rw [List.length_drop]; omega)
              rw [List.length_drop] at h3 h4
              exact ⟨by omega, fun h => by have := h4 h; omega⟩
        · split
          · exact ⟨Nat.zero_le _, fun h => by cases h⟩
          · obtain ⟨h1, h2⟩ := ih r (by omega)
            exact ⟨by simp only; omega, fun h => by have := h2 h; simp only; omega⟩

def Out.In (l : List UInt8) : Out → Prop
  | .ok t => t.n ≤ l.length
  | .bad o => o ≤ l.length

theorem Out.In.shift {l : List UInt8} {o : Out} {k : Nat} (h : o.In (l.drop k)) (hk : k ≤ l.length) : (o.shift k).In l := by
  cases o with
  | ok t =>
    have h : t.n ≤ (l.drop k).length := h
    rw [List.length_drop] at h
    show t.n + k ≤ l.length
    omega
  | bad o =>
    have h : o ≤ (l.drop k).length := h
    rw [List.length_drop] at h
    show o + k ≤ l.length
    omega

theorem num_in (l : List UInt8) : (num l).In l := by
  have hN : numN l ≤ l.length := by
    unfold numN
    split
    · rename_i h
      have h1 := numU_le _ (l.drop 2) true true false (Nat.le_refl _)
      rw [List.length_drop] at h1
      have h2 : 2 ≤ l.length := by
        cases l with
        | nil => cases h
        | cons c r => cases r with
          | nil => cases h
          | cons d r => simp only [List.length_cons]; omega
      omega
    · exact numU_le _ l _ _ _ (Nat.le_refl _)
  rw [num_eq]
  split
  · exact hN
  · exact hN

theorem qtok_in (q : List UInt8) (raw uni ident : Bool) (kind : ByteArray) (l : List UInt8) (hq : q.length ≤ l.length) : (qtok q raw uni ident kind l).In l := by
  have h := qr_len q raw uni _ (l.drop q.length) (Nat.le_refl _)
  rw [List.length_drop] at h
  unfold qtok
  split
  · rename_i bs n he
    rw [he] at h
    have := h.2 rfl
    split
    · exact Nat.zero_le _
    · show q.length + n + q.length ≤ l.length
      simp only at this
      omega
  · exact Nat.zero_le _
  · exact Nat.zero_le _
  · rename_i n he
    rw [he] at h
    show q.length + n ≤ l.length
    have := h.1
    simp only at this
    omega

theorem delim_lenP (l : List UInt8) : (delim l).length ≤ l.length := by
  unfold delim
  split
  · split <;> simp
  · simp
  · exact Nat.le_refl _

theorem tok_in (last : ByteArray) (l : List UInt8) : (tok last l).In l := by
  cases l with
  | nil => exact Nat.zero_le _
  | cons c r =>
    rw [tok]
    split
    · show 1 ≤ (c :: r).length; simp
    · split
      · split
        · exact num_in _
        · show 1 ≤ (c :: r).length; simp
      · split
        · split
          · rename_i d hd
            show 2 ≤ (c :: r).length
            cases r with
            | nil => cases hd
            | cons e r => simp
          · split
            · show 1 + idLen r ≤ (c :: r).length
              have := idLen_le r
              simp only [List.length_cons]; omega
            · show 1 ≤ (c :: r).length; simp
        · split
          · exact qtok_in _ _ _ _ _ _ (by simp)
          · split
            · exact num_in _
            · split
              · rename_i i b w hp
                obtain ⟨d, v, hv⟩ := pre_drop _ _ _ _ _ _ hp
                have hi : i ≤ (c :: r).length := by
                  rcases Nat.le_total i (c :: r).length with h | h
                  · exact h
                  · rw [List.drop_eq_nil_of_le h] at hv; cases hv
                exact Out.In.shift (qtok_in _ _ _ _ _ _ (delim_lenP _)) hi
              · split
                · have := idLen_le (c :: r)
                  unfold word
                  simp only
                  split
                  · exact this
                  · exact this
                · exact Nat.zero_le _

theorem ftok_in (last : ByteArray) (l : List UInt8) : (ftok last l).In l := by
  unfold ftok
  split
  · exact idLen_le l
  · exact tok_in last l

theorem tokD_in (last : ByteArray) (dot : Bool) (l : List UInt8) : (tokD last dot l).In l := by
  unfold tokD
  split
  · exact ftok_in last l
  · exact tok_in last l
theorem tokD_good (last : ByteArray) (dot : Bool) (c : UInt8) (r : List UInt8) (t : Tk) (h : tokD last dot (c :: r) = .ok t) : Good t := by
  unfold tokD at h
  split at h
  · exact ftok_good last c r t h
  · exact tok_good last c r t h
theorem tokD_nil (last : ByteArray) (dot : Bool) : tokD last dot [] = .ok (plain kEof 0) := by cases dot <;> rfl

/-- The token of a text: what stands ahead of it, its length; the end has none. -/
theorem next_ok {last : ByteArray} {dot : Bool} {l : List UInt8} {t : Nt} (h : next last dot l = .ok t) :
    (gap l).2.2 = false ∧ t.coms = (gap l).1 ∧ t.space = (gap l).2.1 ∧ t.pre = gapLen (gap l) ∧ tokD last dot (l.drop t.pre) = .ok t.tk ∧ t.len ≤ l.length ∧
    ((t.tk = plain kEof 0 ∧ t.pre = l.length) ∨ (Good t.tk ∧ t.pre < l.length)) := by
  unfold next at h
  simp only at h
  cases hg : (gap l).2.2 with
  | true => rw [hg] at h; cases h
  | false =>
    rw [hg] at h
    simp only [Bool.false_eq_true, if_false] at h
    cases ht : tokD last dot (l.drop (gapLen (gap l))) with
    | bad o => rw [ht] at h; cases h
    | ok tk =>
      rw [ht] at h
      injection h with h
      subst h
      have hle := gap_le l
      have hin := tokD_in last dot (l.drop (gapLen (gap l)))
      rw [ht] at hin
      have hin : tk.n ≤ (l.drop (gapLen (gap l))).length := hin
      rw [List.length_drop] at hin
      refine ⟨rfl, rfl, rfl, rfl, ht, ?_, ?_⟩
      · show gapLen (gap l) + tk.n ≤ l.length; omega
      · rcases Nat.lt_or_ge (gapLen (gap l)) l.length with h1 | h1
        · right
          obtain ⟨c, r, hr⟩ : ∃ c r, l.drop (gapLen (gap l)) = c :: r := by
            cases hd : l.drop (gapLen (gap l)) with
            | nil =>
              have := congrArg List.length hd
              rw [List.length_drop] at this
              simp at this
              omega
            | cons c r => exact ⟨c, r, rfl⟩
          rw [hr] at ht
          exact ⟨tokD_good _ _ _ _ _ ht, h1⟩
        · left
          have hd : l.drop (gapLen (gap l)) = [] := List.drop_eq_nil_of_le h1
          rw [hd, tokD_nil] at ht
          injection ht with ht
          exact ⟨ht.symm, Nat.le_antisymm hle h1⟩

theorem next_bad {last : ByteArray} {dot : Bool} {l : List UInt8} {o : Nat} (h : next last dot l = .bad o) : o ≤ l.length ∧ 0 < l.length := by
  have h0 : 0 < l.length := by
    cases l with
    | cons c r => simp
    | nil =>
      unfold next at h
      rw [gap_nil] at h
      simp [tokD_nil] at h
  refine ⟨?_, h0⟩
  have hle := gap_le l
  unfold next at h
  simp only at h
  split at h
  · cases h; exact hle
  · split at h
    · cases h
    · rename_i o2 ho
      injection h with h
      have hin := tokD_in last dot (l.drop (gapLen (gap l)))
      rw [ho] at hin
      have hin : o2 ≤ (l.drop (gapLen (gap l))).length := hin
      rw [List.length_drop] at hin
      omega

/-- One step of the list of tokens. -/
theorem lexL_bad {last : ByteArray} {dot : Bool} {l : List UInt8} {o : Nat} (p : Nat) (h : next last dot l = .bad o) : lexL last dot l p = ([], some (p + o)) := by
  rw [lexL.eq_def]
  split
  · rename_i o2 h2; rw [h] at h2; cases h2; rfl
  · rename_i t h2; rw [h] at h2; cases h2
theorem lexL_eof {last : ByteArray} {dot : Bool} {l : List UInt8} {t : Nt} (p : Nat) (h : next last dot l = .ok t) (ht : t.tk = plain kEof 0) : lexL last dot l p = ([(p, t)], none) := by
  rw [lexL.eq_def]
  split
  · rename_i o2 h2; rw [h] at h2; cases h2
  · rename_i t2 h2
    rw [h] at h2
    cases h2
    rw [dif_pos (.inl (by rw [ht]; rfl))]
theorem kind_ne_list {k : ByteArray} (h : k ≠ kEof) : k.data.toList ≠ kEof.data.toList := by
  intro e
  apply h
  cases k with
  | mk a =>
    simp only [kEof, ByteArray.mk.injEq]
    have := congrArg List.toArray e
    simpa [kEof] using this
theorem lexL_more {last : ByteArray} {dot : Bool} {l : List UInt8} {t : Nt} (p : Nat) (h : next last dot l = .ok t) (ht : Good t.tk) :
    lexL last dot l p = ((p, t) :: (lexL t.tk.kind (dotOf dot t.tk) (l.drop t.len) (p + t.len)).1, (lexL t.tk.kind (dotOf dot t.tk) (l.drop t.len) (p + t.len)).2) := by
  have hn := (next_ok h).2.2.2.2.2.1
  rw [lexL.eq_def]
  split
  · rename_i o2 h2; rw [h] at h2; cases h2
  · rename_i t2 h2
    rw [h] at h2
    cases h2
    rw [dif_neg]
    rintro (e | e | e)
    · exact kind_ne_list ht.2 e
    · have := ht.1
      unfold Nt.len at e
      omega
    · omega

end Go.Proofs.YtngofbhlhcalpaaGreatDoor.lexer

namespace Go.Proofs.YtngofbhlhcalpaaGreatDoor.lexer
open Go.RowKit Go.Proofs.YtngofbhlhcalpaaGreatDoor.gen
open Go.Proofs.YtngofbhlhcalpaaGreatDoor.upper (up isKw upb)

theorem ne46 {c : UInt8} (h : c ≠ 46) : (nn c == 46) = false := by
  rw [beq_eq_false_iff_ne]
  intro e
  apply h
  have : c.toNat = (46 : UInt8).toNat := by
    unfold nn at e
    show c.toNat = 46
    omega
  exact UInt8.toNat_inj.mp this

theorem tok_last (last last' : ByteArray) (c : UInt8) (r : List UInt8) (h : c ≠ 46) : tok last (c :: r) = tok last' (c :: r) := by
  rw [tok, tok]
  simp only [ne46 h, Bool.false_eq_true, if_false]

theorem num_nodot {l : List UInt8} {t : Tk} (h : num l = .ok t) : t.dot = none := by
  obtain ⟨_, rfl⟩ := num_ok h
  rfl
theorem qtok_nodot {q : List UInt8} {raw uni ident : Bool} {kind : ByteArray} {l : List UInt8} {t : Tk} (h : qtok q raw uni ident kind l = .ok t) : t.dot = none := by
  unfold qtok at h
  split at h
  · split at h
    · cases h
    · injection h with h; rw [← h]
  · cases h
  · cases h
  · cases h
theorem word_nodot {l : List UInt8} {t : Tk} (h : word l = .ok t) : t.dot = none := by
  unfold word at h
  simp only at h
  split at h
  · injection h with h; rw [← h]; rfl
  · injection h with h; rw [← h]

theorem tok_nodot (last : ByteArray) (c : UInt8) (r : List UInt8) (t : Tk) (hc : c ≠ 46) (h : tok last (c :: r) = .ok t) : t.dot = none := by
  rw [tok] at h
  simp only [ne46 hc, Bool.false_eq_true, if_false] at h
  split at h
  · injection h with h; rw [← h]; rfl
  · split at h
    · split at h
      · injection h with h; rw [← h]; rfl
      · split at h
        · injection h with h; rw [← h]
        · injection h with h; rw [← h]; rfl
    · split at h
      · exact qtok_nodot h
      · split at h
        · exact num_nodot h
        · split at h
          · obtain ⟨u, hu, rfl⟩ := Out.shift_ok h
            exact (qtok_nodot hu : u.dot = none)
          · split at h
            · exact word_nodot h
            · cases h

/-- How a text is read to its end. -/
inductive Lexd : ByteArray → Bool → List UInt8 → Nat → List (Nat × Nt) → Prop
  | eof {last : ByteArray} {dot : Bool} {l : List UInt8} {p : Nat} {t : Nt} : next last dot l = .ok t → t.tk = plain kEof 0 → Lexd last dot l p [(p, t)]
  | more {last : ByteArray} {dot : Bool} {l : List UInt8} {p : Nat} {t : Nt} {ts : List (Nat × Nt)} : next last dot l = .ok t → Good t.tk → Lexd t.tk.kind (dotOf dot t.tk) (l.drop t.len) (p + t.len) ts → Lexd last dot l p ((p, t) :: ts)

theorem lexd_of : ∀ (m : Nat) (last : ByteArray) (dot : Bool) (l : List UInt8) (p : Nat) (ts : List (Nat × Nt)), l.length ≤ m → lexL last dot l p = (ts, none) → Lexd last dot l p ts := by
  intro m
  induction m with
  | zero =>
    intro last dot l p ts hm h
    obtain rfl : l = [] := List.eq_nil_of_length_eq_zero (by omega)
    cases hn : next last dot [] with
    | bad o => rw [lexL_bad p hn] at h; cases h
    | ok t =>
      rcases (next_ok hn).2.2.2.2.2.2 with h1 | h1
      · rw [lexL_eof p hn h1.1] at h
        cases h
        exact .eof hn h1.1
      · have := h1.2; simp at this
  | succ m ih =>
    intro last dot l p ts hm h
    cases hn : next last dot l with
    | bad o => rw [lexL_bad p hn] at h; cases h
    | ok t =>
      have hk := next_ok hn
      rcases hk.2.2.2.2.2.2 with h1 | h1
      · rw [lexL_eof p hn h1.1] at h
        cases h
        exact .eof hn h1.1
      · rw [lexL_more p hn h1.1] at h
        injection h with h2 h3
        rw [← h2]
        refine .more hn h1.1 (ih _ _ _ _ _ ?_ (Prod.ext rfl h3))
        have := h1.1.1
        rw [List.length_drop]
        unfold Nt.len
        omega

/-- The bytes of a token. -/
def rawOf (S : List UInt8) (e : Nat × Nt) : List UInt8 := (S.drop (e.1 + e.2.pre)).take e.2.tk.n

theorem drop_split {l : List UInt8} {n k : Nat} (h : n + k ≤ l.length) : (l.drop n).take k ++ l.drop (n + k) = l.drop n ∧ ((l.drop n).take k).length = k := by
  refine ⟨?_, ?_⟩
  · rw [← List.drop_drop, List.take_append_drop]
  · rw [List.length_take, List.length_drop]; omega

theorem alone_one {last : ByteArray} {l : List UInt8} {t : Nt} (h : next last false l = .ok t) (hg : Good t.tk) (h46 : ∀ r, (l.drop t.pre).take t.tk.n ≠ 46 :: r) :
    lexL kNone false ((l.drop t.pre).take t.tk.n) 0 = ([(0, ⟨[], 0, t.tk⟩), (t.tk.n, ⟨[], 0, plain kEof 0⟩)], none) ∧ t.tk.dot = none := by
  obtain ⟨h1, h2, h3, h4, h5, h6, h7⟩ := next_ok h
  have hsp := drop_split (l := l) (n := t.pre) (k := t.tk.n) h6
  have hge := gap_end _ l (Nat.le_refl _) h1
  rw [← h4] at hge
  generalize hx : (l.drop t.pre).take t.tk.n = x at *
  obtain ⟨e1, e2⟩ := hsp
  rw [← e1] at hge h5
  have hpos := hg.1
  cases x with
  | nil => simp at e2; omega
  | cons c x =>
    have hc : c ≠ 46 := fun e => h46 x (by rw [e])
    have h5 : tok last (c :: x ++ l.drop (t.pre + t.tk.n)) = .ok t.tk := h5
    have hdot := tok_nodot last c _ t.tk hc h5
    have ht := tok_tail last (c :: x) _ [] t.tk (Fol.stop _) (by simp) h5 e2.symm
    rw [List.append_nil, tok_last last kNone c x hc] at ht
    have hgap := gap_zero (headSpace_pre _ _ hge.1) (com_pre _ _ hge.2)
    refine ⟨?_, hdot⟩
    have hn1 : next kNone false (c :: x) = .ok ⟨[], 0, t.tk⟩ := by
      unfold next
      simp only [hgap, gapLen, comsLen, Nat.zero_add, Bool.false_eq_true, if_false, List.drop_zero, tokD, ht]
    have hl : (⟨[], 0, t.tk⟩ : Nt).len = t.tk.n := by simp [Nt.len, Nt.pre, comsLen]
    rw [lexL_more 0 hn1 hg, hl]
    have hd : (c :: x).drop t.tk.n = [] := List.drop_eq_nil_of_le (by omega)
    have hn2 : ∀ la d, next la d [] = .ok ⟨[], 0, plain kEof 0⟩ := fun la d => by
      unfold next
      simp only [gap_nil, gapLen, comsLen, Nat.zero_add, Bool.false_eq_true, if_false, List.drop_nil, tokD_nil]
    rw [hd, lexL_eof _ (hn2 _ _) rfl, Nat.zero_add]

theorem alone_all {S : List UInt8} : ∀ {last : ByteArray} {dot : Bool} {l : List UInt8} {p : Nat} {ts : List (Nat × Nt)}, Lexd last dot l p ts → dot = false → l = S.drop p → (∀ e ∈ ts, ∀ r, rawOf S e ≠ 46 :: r) →
    ∀ e ∈ ts, Good e.2.tk → lexL kNone false (rawOf S e) 0 = ([(0, ⟨[], 0, e.2.tk⟩), (e.2.tk.n, ⟨[], 0, plain kEof 0⟩)], none) := by
  intro last dot l p ts h
  induction h with
  | eof hn ht =>
    intro _ _ _ e he hg
    rw [List.mem_singleton] at he
    subst he
    have := hg.1
    rw [show (_ : Nat × Nt).2.tk = plain kEof 0 from ht] at this
    simp [plain] at this
  | @more last dot l p t ts hn hg hrest ih =>
    intro hd hl h46 e he hge
    subst hd hl
    have key := alone_one hn hg (by
      intro r
      have := h46 _ (List.mem_cons_self ..) r
      unfold rawOf at this
      rw [List.drop_drop]
      exact this)
    rcases List.mem_cons.1 he with rfl | he
    · have := key.1
      rw [List.drop_drop] at this
      exact this
    · exact ih (by simp [dotOf, key.2]) (by rw [List.drop_drop]) (fun e he => h46 e (List.mem_cons_of_mem _ he)) e he hge

/-- A token and where it begins. -/
def view (e : Nat × Nt) : Nat × Tk := (e.1 + e.2.pre, e.2.tk)
def shv (k : Nat) (e : Nat × Tk) : Nat × Tk := (e.1 + k, e.2)

theorem lexL_shift : ∀ (m : Nat) (last : ByteArray) (dot : Bool) (l : List UInt8) (p k : Nat), l.length ≤ m →
    (lexL last dot l (p + k)).1.map view = ((lexL last dot l p).1.map view).map (shv k) ∧ (lexL last dot l (p + k)).2 = (lexL last dot l p).2.map (· + k) := by
  have hv : ∀ (p k : Nat) (t : Nt), view (p + k, t) = shv k (view (p, t)) := fun p k t => by simp only [view, shv, Prod.mk.injEq, and_true]; omega
  intro m
  induction m with
  | zero =>
    intro last dot l p k hm
    obtain rfl : l = [] := List.eq_nil_of_length_eq_zero (by omega)
    cases hn : next last dot [] with
    | bad o => have := (next_bad hn).2; simp at this
    | ok t =>
      rcases (next_ok hn).2.2.2.2.2.2 with h1 | h1
      · rw [lexL_eof _ hn h1.1, lexL_eof _ hn h1.1]
        simp [hv]
      · have := h1.2; simp at this
  | succ m ih =>
    intro last dot l p k hm
    cases hn : next last dot l with
    | bad o =>
      rw [lexL_bad _ hn, lexL_bad _ hn]
      simp only [List.map_nil, Option.map_some, Option.some.injEq, true_and]
      omega
    | ok t =>
      rcases (next_ok hn).2.2.2.2.2.2 with h1 | h1
      · rw [lexL_eof _ hn h1.1, lexL_eof _ hn h1.1]
        simp [hv]
      · rw [lexL_more _ hn h1.1, lexL_more _ hn h1.1]
        have hpos := h1.1.1
        obtain ⟨i1, i2⟩ := ih t.tk.kind (dotOf dot t.tk) (l.drop t.len) (p + t.len) k (by rw [List.length_drop]; unfold Nt.len; omega)
        rw [show p + t.len + k = p + k + t.len from by omega] at i1 i2
        simp only [List.map_cons, i1, i2, hv]
        exact ⟨trivial, trivial⟩

theorem tokD_last (last last' : ByteArray) (l : List UInt8) (h : (46 : UInt8) ∉ l) : tokD last false l = tokD last' false l := by
  cases l with
  | nil => rfl
  | cons c r => exact tok_last last last' c r (fun e => h (by rw [e]; exact List.mem_cons_self ..))

/-- Two texts with a line's end between them: the first one is read to its end; the second one has no points. -/
theorem join_all {S r : List UInt8} (hr : (46 : UInt8) ∉ r) : ∀ {last : ByteArray} {dot : Bool} {l : List UInt8} {p : Nat} {ts : List (Nat × Nt)}, Lexd last dot l p ts → dot = false → l = S.drop p → (∀ e ∈ ts, ∀ r, rawOf S e ≠ 46 :: r) →
    (lexL last false (l ++ 10 :: r) p).1.map view = (ts.dropLast).map view ++ ((lexL kNone false r 0).1.map view).map (shv (p + l.length + 1)) ∧ (lexL last false (l ++ 10 :: r) p).2 = (lexL kNone false r 0).2.map (· + (p + l.length + 1)) := by
  intro last dot l p ts h
  induction h with
  | @eof last dot l p t hn ht =>
    intro hd _ _
    subst hd
    obtain ⟨h1, h2, h3, h4, h5, h6, h7⟩ := next_ok hn
    have hend : gapLen (gap l) = l.length := by
      rcases h7 with h7 | h7
      · rw [← h4]; exact h7.2
      · have := h7.1.1; rw [ht] at this; simp [plain] at this
    obtain ⟨g1, g2⟩ := (gap_line _ l r (Nat.le_refl _) h1).2 hend
    have hd : ∀ n, (l ++ 10 :: r).drop (l.length + 1 + n) = r.drop n := fun n => by
      rw [show l.length + 1 + n = l.length + (n + 1) from by omega, ← List.drop_drop, List.drop_left]; rfl
    have hmem : (46 : UInt8) ∉ r.drop (gapLen (gap r)) := fun hm => hr (List.mem_of_mem_drop hm)
    simp only [List.dropLast_singleton, List.map_nil, List.nil_append]
    cases ho : (gap r).2.2 with
    | true =>
      have n1 : next last false (l ++ 10 :: r) = .bad (l.length + 1 + gapLen (gap r)) := by
        unfold next; simp only [g2, ho, if_true, g1]
      have n2 : next kNone false r = .bad (gapLen (gap r)) := by
        unfold next; simp only [ho, if_true]
      rw [lexL_bad _ n1, lexL_bad _ n2]
      simp only [List.map_nil, Option.map_some, Option.some.injEq, true_and]
      omega
    | false =>
      cases hk : tokD kNone false (r.drop (gapLen (gap r))) with
      | bad o =>
        have n1 : next last false (l ++ 10 :: r) = .bad (l.length + 1 + gapLen (gap r) + o) := by
          unfold next; simp only [g2, ho, Bool.false_eq_true, if_false, g1, hd, tokD_last last kNone _ hmem, hk]
        have n2 : next kNone false r = .bad (gapLen (gap r) + o) := by
          unfold next; simp only [ho, Bool.false_eq_true, if_false, hk]
        rw [lexL_bad _ n1, lexL_bad _ n2]
        simp only [List.map_nil, Option.map_some, Option.some.injEq, true_and]
        omega
      | ok tk =>
        have n1 : next last false (l ++ 10 :: r) = .ok ⟨(gap (l ++ 10 :: r)).1, (gap (l ++ 10 :: r)).2.1, tk⟩ := by
          unfold next; simp only [g2, ho, Bool.false_eq_true, if_false, g1, hd, tokD_last last kNone _ hmem, hk]
        have n2 : next kNone false r = .ok ⟨(gap r).1, (gap r).2.1, tk⟩ := by
          unfold next; simp only [ho, Bool.false_eq_true, if_false, hk]
        have p1 : (⟨(gap (l ++ 10 :: r)).1, (gap (l ++ 10 :: r)).2.1, tk⟩ : Nt).pre = l.length + 1 + (⟨(gap r).1, (gap r).2.1, tk⟩ : Nt).pre := g1
        have p2 : (⟨(gap (l ++ 10 :: r)).1, (gap (l ++ 10 :: r)).2.1, tk⟩ : Nt).len = l.length + 1 + (⟨(gap r).1, (gap r).2.1, tk⟩ : Nt).len := by
          show Nt.pre _ + tk.n = l.length + 1 + (Nt.pre _ + tk.n)
          rw [p1]; omega
        have hv : view (p, (⟨(gap (l ++ 10 :: r)).1, (gap (l ++ 10 :: r)).2.1, tk⟩ : Nt)) = shv (p + l.length + 1) (view (0, (⟨(gap r).1, (gap r).2.1, tk⟩ : Nt))) := by
          simp only [view, shv, p1, Prod.mk.injEq, and_true]; omega
        rcases (next_ok n2).2.2.2.2.2.2 with h8 | h8
        · rw [lexL_eof _ n1 h8.1, lexL_eof _ n2 h8.1]
          simp only [List.map_cons, List.map_nil, hv, Option.map_none]
          exact ⟨trivial, trivial⟩
        · rw [lexL_more _ n1 h8.1, lexL_more _ n2 h8.1, p2, hd]
          have hs := lexL_shift _ tk.kind (dotOf false tk) (r.drop (⟨(gap r).1, (gap r).2.1, tk⟩ : Nt).len) (0 + (⟨(gap r).1, (gap r).2.1, tk⟩ : Nt).len) (p + l.length + 1) (Nat.le_refl _)
          rw [show 0 + (⟨(gap r).1, (gap r).2.1, tk⟩ : Nt).len + (p + l.length + 1) = p + (l.length + 1 + (⟨(gap r).1, (gap r).2.1, tk⟩ : Nt).len) from by omega] at hs
          simp only [List.map_cons, hv, hs.1, hs.2]
          exact ⟨trivial, trivial⟩
  | @more last dot l p t ts hn hg hrest ih =>
    intro hd hl h46
    subst hd hl
    obtain ⟨h1, h2, h3, h4, h5, h6, h7⟩ := next_ok hn
    have hlt : gapLen (gap (S.drop p)) < (S.drop p).length := by
      rcases h7 with h7 | h7
      · have := hg.1; rw [h7.1] at this; simp [plain] at this
      · rw [← h4]; exact h7.2
    have hgl := (gap_line _ (S.drop p) r (Nat.le_refl _) h1).1 hlt
    have hdot := (alone_one hn hg (by
      intro r
      have := h46 _ (List.mem_cons_self ..) r
      unfold rawOf at this
      rw [List.drop_drop]
      exact this)).2
    have hsp := drop_split (l := S.drop p) (n := t.pre) (k := t.tk.n) h6
    have hple : t.pre ≤ (S.drop p).length := by omega
    have n1 : next last false (S.drop p ++ 10 :: r) = .ok t := by
      have h5 : tok last ((S.drop p).drop t.pre) = .ok t.tk := h5
      have e : (S.drop p ++ 10 :: r).drop t.pre = ((S.drop p).drop t.pre).take t.tk.n ++ ((S.drop p).drop (t.pre + t.tk.n) ++ 10 :: r) := by
        rw [drop_app _ hple, ← List.append_assoc, hsp.1]
      have ht : tok last ((S.drop p ++ 10 :: r).drop t.pre) = .ok t.tk := by
        rw [e]
        rw [← hsp.1] at h5
        refine tok_tail last _ _ _ t.tk (Fol.line _ _) ?_ h5 hsp.2.symm
        intro e2
        have := hsp.2
        rw [e2] at this
        have := hg.1
        simp at *
        omega
      unfold next
      simp only [hgl, h1, Bool.false_eq_true, if_false, ← h4, tokD, ht, ← h2, ← h3]
    have hle : t.len ≤ (S.drop p).length := h6
    rw [lexL_more p n1 hg, drop_app _ hle]
    obtain ⟨i1, i2⟩ := ih (by simp [dotOf, hdot]) (by rw [List.drop_drop]) (fun e he => h46 e (List.mem_cons_of_mem _ he))
    have hdf : dotOf false t.tk = false := by simp [dotOf, hdot]
    have hne : ts ≠ [] := by
      intro e
      rw [e] at hrest
      cases hrest
    rw [hdf]
    have hlen : p + t.len + ((S.drop p).drop t.len).length + 1 = p + (S.drop p).length + 1 := by rw [List.length_drop]; omega
    rw [hlen] at i1 i2
    refine ⟨?_, i2⟩
    rw [List.dropLast_cons_of_ne_nil hne]
    simp only [List.map_cons, i1, List.cons_append]

end Go.Proofs.YtngofbhlhcalpaaGreatDoor.lexer

namespace Go.Proofs.YtngofbhlhcalpaaGreatDoor.lexer
open Go.RowKit Go.Proofs.YtngofbhlhcalpaaGreatDoor.gen

/-- What is told of a token and its place in the list of n tokens; o: the fault. -/
def Elem (lo hi : Nat) (o : Option Nat) (n i : Nat) (e : Nat × Nt) : Prop :=
  lo ≤ e.1 ∧ e.1 + e.2.len ≤ hi ∧ ((Good e.2.tk ∧ (o = none → i + 1 < n)) ∨ (e.2.tk = plain kEof 0 ∧ o = none ∧ i + 1 = n))

theorem lexL_elem : ∀ (m : Nat) (last : ByteArray) (dot : Bool) (l : List UInt8) (p : Nat), l.length ≤ m →
    (∀ i e, (lexL last dot l p).1[i]? = some e → Elem p (p + l.length) (lexL last dot l p).2 (lexL last dot l p).1.length i e) ∧
    (∀ o, (lexL last dot l p).2 = some o → o ≤ p + l.length ∧ 0 < l.length) ∧ ((lexL last dot l p).2 = none → 0 < (lexL last dot l p).1.length) ∧ (lexL last dot l p).1.length ≤ l.length + 1 := by
  intro m
  induction m with
  | zero =>
    intro last dot l p hm
    obtain rfl : l = [] := List.eq_nil_of_length_eq_zero (by omega)
    cases hn : next last dot [] with
    | bad o => have := (next_bad hn).2; simp at this
    | ok t =>
      have hk := next_ok hn
      rcases hk.2.2.2.2.2.2 with h1 | h1
      · rw [lexL_eof _ hn h1.1]
        refine ⟨fun i e he => ?_, fun o ho => (by cases ho), fun _ => (by simp), by simp⟩
        cases i with
        | zero =>
          simp only [List.getElem?_cons_zero, Option.some.injEq] at he
          subst he
          exact ⟨Nat.le_refl _, by show p + t.len ≤ _; have := hk.2.2.2.2.2.1; omega, .inr ⟨h1.1, rfl, rfl⟩⟩
        | succ i => simp at he
      · have := h1.2; simp at this
  | succ m ih =>
    intro last dot l p hm
    cases hn : next last dot l with
    | bad o =>
      have hb := next_bad hn
      rw [lexL_bad _ hn]
      exact ⟨fun i e he => (by simp at he), fun o ho => (by injection ho with ho; exact ⟨by omega, hb.2⟩), fun h => (by cases h), by simp⟩
    | ok t =>
      have hk := next_ok hn
      have hlen := hk.2.2.2.2.2.1
      rcases hk.2.2.2.2.2.2 with h1 | h1
      · rw [lexL_eof _ hn h1.1]
        refine ⟨fun i e he => ?_, fun o ho => (by cases ho), fun _ => (by simp), by simp⟩
        cases i with
        | zero =>
          simp only [List.getElem?_cons_zero, Option.some.injEq] at he
          subst he
          exact ⟨Nat.le_refl _, by show p + t.len ≤ _; omega, .inr ⟨h1.1, rfl, rfl⟩⟩
        | succ i => simp at he
      · rw [lexL_more _ hn h1.1]
        have hpos : 0 < t.len := by have := h1.1.1; unfold Nt.len; omega
        obtain ⟨i1, i2, i3, i4⟩ := ih t.tk.kind (dotOf dot t.tk) (l.drop t.len) (p + t.len) (by rw [List.length_drop]; omega)
        rw [List.length_drop] at i1 i2 i4
        refine ⟨fun i e he => ?_, fun o ho => ?_, fun _ => (by simp), by simp only [List.length_cons]; omega⟩
        · cases i with
          | zero =>
            simp only [List.getElem?_cons_zero, Option.some.injEq] at he
            subst he
            refine ⟨Nat.le_refl _, by show p + t.len ≤ _; omega, .inl ⟨h1.1, fun h => ?_⟩⟩
            have := i3 h
            simp only [List.length_cons]; omega
          | succ i =>
            simp only [List.getElem?_cons_succ] at he
            obtain ⟨j1, j2, j3⟩ := i1 i e he
            refine ⟨by omega, by omega, ?_⟩
            rcases j3 with ⟨k1, k2⟩ | ⟨k1, k2, k3⟩
            · exact .inl ⟨k1, fun h => by have := k2 h; simp only [List.length_cons]; omega⟩
            · exact .inr ⟨k1, k2, by simp only [List.length_cons]; omega⟩
        · have := i2 o ho
          exact ⟨by omega, by omega⟩

end Go.Proofs.YtngofbhlhcalpaaGreatDoor.lexer

namespace Go.Proofs.YtngofbhlhcalpaaGreatDoor.lexer
open Go.RowKit Go.Proofs.YtngofbhlhcalpaaGreatDoor.gen

theorem kBad_ne : kBad ≠ kEof := by simp [kBad, kEof]

/-- The lexer behind a token. -/
def LX.put (x : LX) (t : Tk) : LX := { x with kind := t.kind, text := t.text, base := t.base, p := x.p + t.n, dot := t.dot.getD x.dot }

/-- Whether a fault cannot be cut by the text's end. -/
def NB (s : ByteArray) : Prop := ∀ k : Nat, byt s k = 92 → k + 9 < s.size

/-- What a reader of a token gives: the token; or, if it may not panic, something bad that is longer than nothing; or a fault. -/
def TokRes (np : Bool) (lb fb : Nat) (fp s : ByteArray) (x : LX) (o : Out) (w : World) (e : Ending) (w' : World) : Prop :=
  (∃ t, o = .ok t ∧ Goes (.tuple #[]) lb fb fp s (x.put t) w e w') ∨
  (∃ off, o = .bad off ∧ np = false ∧ FaultL lb fb (x.p + off) w e w') ∨
  (∃ off y, o = .bad off ∧ np = true ∧ x.p < y.p ∧ y.kind ≠ kEof ∧ y.com = x.com ∧ Goes (.tuple #[]) lb fb fp s y w e w')

/-- The lexer ahead of a token. -/
structure Fresh (x : LX) : Prop where
  kind : x.kind = kNone
  text : x.text = kNone
  base : x.base = 0

end Go.Proofs.YtngofbhlhcalpaaGreatDoor.lexer

namespace Go.Proofs.YtngofbhlhcalpaaGreatDoor.lexer
open Go.RowKit Go.Proofs.YtngofbhlhcalpaaGreatDoor.gen

/-- A token of the plain lexer as plain data. -/
def itOf (s : ByteArray) (e : Nat × Nt) : IT := ⟨e.2.tk.kind, s.extract (e.1 + comsLen e.2.coms) (e.1 + e.2.pre), s.extract (e.1 + e.2.pre) (e.1 + e.2.len), e.2.tk.text, e.2.tk.base, ((e.1 + e.2.pre : Nat) : Int), ((e.1 + e.2.len : Nat) : Int), comsAt s e.1 e.2.coms⟩

def lexAll (s : ByteArray) : List (Nat × Nt) × Option Nat := lexL kNone false s.data.toList 0

/-- The tables that the lexer reads, and the type of errors. -/
structure Ctx (w : World) : Prop where
  tabs : Tabs w
  ety : EType w
theorem Ctx.below {w w' : World} (h : Ctx w) (hb : Below w.heap.size w w') : Ctx w' := ⟨h.tabs.below hb, h.ety.below hb⟩

/-- What Lex gives. -/
def LexRes (s : ByteArray) (w : World) (e : Ending) (w' : World) : Prop :=
  ∃ v, e = .returned (.tuple #[v, .int .i64 (((lexAll s).2.getD 0 : Nat) : Int), .bool (lexAll s).2.isNone]) ∧ ToksAt w' w.heap.size v ((lexAll s).1.map (itOf s)) ∧ Below w.heap.size w w'

end Go.Proofs.YtngofbhlhcalpaaGreatDoor.lexer

namespace Go.Proofs.YtngofbhlhcalpaaGreatDoor.lexer
open Go.RowKit Go.Proofs.YtngofbhlhcalpaaGreatDoor.gen

theorem britStart (s : ByteArray) : max (0 : Int) ((s.size : Int) - 9) = ((s.size - 9 : Nat) : Int) := by omega
theorem byt_of_get (s : ByteArray) (k : Nat) (h : k < s.size) (h92 : (s[k].toNat : Int) = 92) : byt s k = 92 := by rw [byt_in s k h, h92]

set_option maxRecDepth 10000 in
theorem brittle_no (s : ByteArray) (w : World) (hs : s.size ≤ 2147483647) (h : NB s) : Calls Tryz.prog 10 #[.string s] w fun e w' => e = .returned (.bool false) ∧ w = w' := by
  have HB := Lib.hid h
  have hm := britStart s
  clear h
  go_enter Tryz.func10, Tryz.ntmps10
  go_wp2_with fail
  clear hm
  go_loopg [3] (s.size - (s.size - 9)) (fun g i wr => wr = w ∧ ∃ k : Nat, g = s.size - k ∧ i = .int .i64 k ∧ s.size - 9 ≤ k ∧ k ≤ s.size)
  case atStart => exact ⟨rfl, s.size - 9, rfl, rfl, Nat.le_refl _, by omega⟩
  case round =>
    obtain ⟨rfl, k, hg, rfl, hk9, hk⟩ := hrel
    by_cases hlt : k < s.size
    · have hne : ((s[k].toNat : Int) == 92) = false := by
        rw [beq_eq_false_iff_ne]
        intro e
        have := HB.out k (byt_of_get s k hlt e)
        omega
      have hkw : IntKind.i64.wrap ((k : Int) + 1) = (k : Int) + 1 := IntWalk.i64_in _ (by omega)
      have hi0 : (0 : Int) ≤ (k : Int) := by omega
      have hi1 : (k : Int) < (s.size : Int) := by omega
      go_wp2_with fail
      go_roundg (s.size - (k + 1))
      case measure => omega
      case rel => exact ⟨rfl, k + 1, rfl, by go_num, by omega, by omega⟩
    · go_wp2_with fail
      go_ret
      exact ⟨rfl, rfl⟩

set_option maxRecDepth 10000 in
theorem brittle_yes (s : ByteArray) (w : World) (hs : s.size ≤ 2147483647) (h : ¬ NB s) : Calls Tryz.prog 10 #[.string s] w fun e w' => e = .returned (.bool true) ∧ w = w' := by
  have HB := Lib.hid h
  have hm := britStart s
  clear h
  go_enter Tryz.func10, Tryz.ntmps10
  go_wp2_with fail
  clear hm
  go_loopg [3] (s.size - (s.size - 9)) (fun g i wr => wr = w ∧ ∃ k : Nat, g = s.size - k ∧ i = .int .i64 k ∧ s.size - 9 ≤ k ∧ k ≤ s.size ∧ Hid (∀ j : Nat, s.size - 9 ≤ j → j < k → ¬ byt s j = 92))
  case atStart => exact ⟨rfl, s.size - 9, rfl, rfl, Nat.le_refl _, by omega, fun j h1 h2 => by omega⟩
  case round =>
    obtain ⟨rfl, k, hg, rfl, hk9, hk, HJ⟩ := hrel
    by_cases hlt : k < s.size
    · have hi0 : (0 : Int) ≤ (k : Int) := by omega
      have hi1 : (k : Int) < (s.size : Int) := by omega
      by_cases h92 : (s[k].toNat : Int) = 92
      · have hne : ((s[k].toNat : Int) == 92) = true := by rw [beq_iff_eq]; exact h92
        clear h92
        go_wp2_with fail
        go_ret
        exact ⟨rfl, rfl⟩
      · have hne : ((s[k].toNat : Int) == 92) = false := by rw [beq_eq_false_iff_ne]; exact h92
        have HJ2 := Lib.hid (show ∀ j : Nat, s.size - 9 ≤ j → j < k + 1 → ¬ byt s j = 92 from fun j h1 h2 => by
          rcases Nat.lt_or_ge j k with h3 | h3
          · exact HJ.out j h1 h3
          · obtain rfl : j = k := by omega
            rw [byt_in s j hlt]; exact h92)
        have hkw : IntKind.i64.wrap ((k : Int) + 1) = (k : Int) + 1 := IntWalk.i64_in _ (by omega)
        clear h92
        go_wp2_with fail
        go_roundg (s.size - (k + 1))
        case measure => omega
        case rel => exact ⟨rfl, k + 1, rfl, by go_num, by omega, by omega, HJ2⟩
    · exfalso
      apply HB.out
      intro j hj
      rcases Nat.lt_or_ge (j + 9) s.size with h1 | h1
      · exact h1
      · have h2 := (byt_lt s j (by omega)).2
        exact absurd hj (HJ.out j (by omega) (by omega))

end Go.Proofs.YtngofbhlhcalpaaGreatDoor.lexer

namespace Go.Proofs.YtngofbhlhcalpaaGreatDoor.lexer
open Go.RowKit Go.Proofs.YtngofbhlhcalpaaGreatDoor.gen

def BoolRes (b : Bool) (w : World) (e : Ending) (w' : World) : Prop := e = .returned (.bool b) ∧ Below w.heap.size w w'

/-- The same but for their places and what stands ahead of them. -/
structure Alike (a b : IT) : Prop where
  kind : a.kind = b.kind
  raw : a.raw = b.raw
  text : a.text = b.text
  base : a.base = b.base

def aggOf (t : IT) (ca : Option Addr) (cn cc : Nat) : Value := .agg #[.string t.kind, .string t.space, .string t.raw, .string t.text, .int .i64 t.base, .int .i64 t.pos, .int .i64 t.en, .slice ca cn cc]

set_option maxRecDepth 100000 in
theorem alike_yes (a b : IT) (ca cb : Option Addr) (na ma nb mb : Nat) (w : World) (h : Alike a b) :
    Calls Tryz.prog 14 #[.agg #[.string a.kind, .string a.space, .string a.raw, .string a.text, .int .i64 a.base, .int .i64 a.pos, .int .i64 a.en, .slice ca na ma], .agg #[.string b.kind, .string b.space, .string b.raw, .string b.text, .int .i64 b.base, .int .i64 b.pos, .int .i64 b.en, .slice cb nb mb]] w (BoolRes true w) := by
  obtain ⟨ak, asp, ar, at_, ab, ap, ae, ac⟩ := a
  obtain ⟨bk, bsp, br, bt, bb, bp, be, bc⟩ := b
  obtain ⟨h1, h2, h3, h4⟩ := h
  simp only at h1 h2 h3 h4
  subst h1 h2 h3 h4
  go_enter Tryz.func14, Tryz.ntmps14
  go_wp2_with fail
  go_ret
  exact ⟨rfl, ((Below.refl _ _).alloc (Nat.le_refl _) _).alloc (by show _ ≤ (w.heap.push _).size; rw [Array.size_push]; omega) _⟩

theorem ext_pre (s : ByteArray) (n : Nat) : (s.extract 0 n).toList = s.data.toList.take n := by
  rw [ByteArray.toList_eq, ByteArray.data_extract, Array.toList_extract, List.extract_eq_take_drop, List.drop_zero, Nat.sub_zero]

theorem begins_no (s : ByteArray) (w : World) (hs : s.size ≤ 2147483647) (h : ∀ r, s.data.toList ≠ 46 :: r) : Calls Tryz.prog 30 #[.string s, .string ⟨#[46]⟩] w fun e w' => e = .returned (.bool false) ∧ w = w' := by
  by_cases h0 : s.size = 0
  · have d1 : decide ((1 : Int) ≤ (s.size : Int)) = false := by simp; omega
    have d2 : ¬ (1 : Int) ≤ (s.size : Int) := by omega
    clear h
    go_enter Tryz.func30, Tryz.ntmps30
    go_wp2_with fail
    go_ret
    exact ⟨rfl, rfl⟩
  · have d1 : (1 : Int) ≤ (s.size : Int) := by omega
    have he : ((s.extract 0 1).toList == [46]) = false := by
      rw [ext_pre, beq_eq_false_iff_ne]
      intro e
      cases hl : s.data.toList with
      | nil => rw [hl] at e; cases e
      | cons c r =>
        rw [hl] at e
        simp only [List.take_succ_cons, List.take_zero, List.cons.injEq, and_true] at e
        exact h r (by rw [hl, e])
    clear h
    go_enter Tryz.func30, Tryz.ntmps30
    go_wp2_with fail
    go_ret
    exact ⟨rfl, rfl⟩

theorem begins_yes (s : ByteArray) (w : World) (hs : s.size ≤ 2147483647) (h : ∃ r, s.data.toList = 46 :: r) : Calls Tryz.prog 30 #[.string s, .string ⟨#[46]⟩] w fun e w' => e = .returned (.bool true) ∧ w = w' := by
  obtain ⟨r, hr⟩ := h
  have hl := len_list s
  rw [hr, List.length_cons] at hl
  have d1 : (1 : Int) ≤ (s.size : Int) := by omega
  have he : ((s.extract 0 1).toList == [46]) = true := by
    rw [ext_pre, hr, beq_iff_eq]; rfl
  clear hr
  go_enter Tryz.func30, Tryz.ntmps30
  go_wp2_with fail
  go_ret
  exact ⟨rfl, rfl⟩

/-- A token that says that a point is there. -/
def Pt (t : IT) : Prop := t.kind.data.toList = [46] ∨ ∃ r, t.raw.data.toList = 46 :: r

end Go.Proofs.YtngofbhlhcalpaaGreatDoor.lexer

namespace Go.Proofs.YtngofbhlhcalpaaGreatDoor.lexer
open Go.RowKit Go.Proofs.YtngofbhlhcalpaaGreatDoor.gen

theorem bel2' {w w1 w2 : World} (h : Below w.heap.size w w1) (k : Below w1.heap.size w1 w2) : Below w.heap.size w w2 := h.trans (k.mono h.size)

theorem TokAt.below {w w' : World} {g i B : Nat} {t : IT} (h : TokAt w g i B t) (hb : Below w.heap.size w w') : TokAt w' g i B t := by
  have hlt : g < w.heap.size := World.block_lt_of_cell? _ _ h.kind
  have key : ∀ o, w'.cell? ⟨g, o, none⟩ = w.cell? ⟨g, o, none⟩ := fun o => hb.cell (p := ⟨g, o, none⟩) hlt
  obtain ⟨ca, cn, cc, h7, h8⟩ := h.coms
  exact ⟨(key _).trans h.kind, (key _).trans h.space, (key _).trans h.raw, (key _).trans h.text, (key _).trans h.base, (key _).trans h.pos, (key _).trans h.en, ca, cn, cc, (key _).trans h7, h8.frm (Frm.ofBelow hb []) (by simp)⟩

/-- The tokens that stand in a row from a place on. -/
def Reads (w : World) (g o : Nat) (ts : List IT) : Prop := ∀ i t, ts[i]? = some t → ∃ B, TokAt w g (o + i * 8) B t
theorem Reads.below {w w' : World} {g o : Nat} {ts : List IT} (h : Reads w g o ts) (hb : Below w.heap.size w w') : Reads w' g o ts := fun i t ht => let ⟨B, h1⟩ := h i t ht; ⟨B, h1.below hb⟩

def Alikes (ts us : List IT) : Prop := ts.length = us.length ∧ ∀ (i : Nat) t u, ts[i]? = some t → us[i]? = some u → Alike t u

set_option maxRecDepth 100000 in
theorem allAlike_nil (ao bo : Option Addr) (c c2 : Nat) (w : World) : Calls Tryz.prog 16 #[.slice ao 0 c, .slice bo 0 c2] w (BoolRes true w) := by
  go_enter Tryz.func16, Tryz.ntmps16
  go_wp2_with fail
  go_loopg [13] 0 (fun g' i wr => wr = w ∧ i = .int .i64 0)
  case atStart => exact ⟨rfl, rfl⟩
  case round =>
    obtain ⟨rfl, rfl⟩ := hrel
    go_wp2_with fail
    go_ret
    exact ⟨rfl, Below.refl _ _⟩

set_option maxRecDepth 100000 in
set_option maxHeartbeats 4000000 in
theorem allAlike_yes (g o g2 o2 n c c2 : Nat) (ts us : List IT) (w : World) (hn : ts.length = n) (hn2 : n ≤ 2147483647) (h1 : Reads w g o ts) (h2 : Reads w g2 o2 us) (ha : Alikes ts us) :
    Calls Tryz.prog 16 #[.slice (some ⟨g, o, none⟩) n c, .slice (some ⟨g2, o2, none⟩) n c2] w (BoolRes true w) := by
  have HNn := Lib.hid hn
  have H1 := Lib.hid h1
  have H2 := Lib.hid h2
  have HA := Lib.hid ha
  clear hn h1 h2 ha
  go_enter Tryz.func16, Tryz.ntmps16
  go_wp2_with fail
  go_loopg [13] n (fun g' i wr => ∃ k : Nat, g' = n - k ∧ i = .int .i64 k ∧ k ≤ n ∧ Hid (Below w.heap.size w wr))
  case atStart => exact ⟨0, rfl, rfl, Nat.zero_le _, Below.refl _ _⟩
  case round =>
    obtain ⟨k, hg, rfl, hk, HB⟩ := hrel
    by_cases hlt : k < n
    · have hkl : k < ts.length := by
        have h3 : ts.length = n := HNn.out
        omega
      have hku : k < us.length := by
        have h3 : ts.length = us.length := HA.out.1
        omega
      obtain ⟨t, hxt⟩ : ∃ t, ts[k]? = some t := ⟨_, List.getElem?_eq_getElem hkl⟩
      obtain ⟨u, hxu⟩ : ∃ u, us[k]? = some u := ⟨_, List.getElem?_eq_getElem hku⟩
      have hal := HA.out.2 k t u hxt hxu
      obtain ⟨B1, hT⟩ := H1.out.below HB.out k t hxt
      obtain ⟨B2, hU⟩ := H2.out.below HB.out k u hxu
      obtain ⟨q0, q1, q2, q3, q4, q5, q6, ca, cn, cc, q7, _⟩ := hT
      obtain ⟨u0, u1, u2, u3, u4, u5, u6, da, dn, dc, u7, _⟩ := hU
      have hi0 : (0 : Int) ≤ (k : Int) := by omega
      have hi1 : (k : Int) < (n : Int) := by omega
      have hkw : IntKind.i64.wrap ((k : Int) + 1) = (k : Int) + 1 := IntWalk.i64_in _ (by omega)
      have HAL := Lib.hid hal
      clear hal hxt hxu
      have hkeep : ∀ w' : World, Below wr.heap.size wr w' → (w'.cell? ⟨g, o + k * 8, none⟩ = some (.string t.kind) ∧ w'.cell? ⟨g, o + k * 8 + 1, none⟩ = some (.string t.space) ∧ w'.cell? ⟨g, o + k * 8 + 2, none⟩ = some (.string t.raw) ∧ w'.cell? ⟨g, o + k * 8 + 3, none⟩ = some (.string t.text) ∧ w'.cell? ⟨g, o + k * 8 + 4, none⟩ = some (.int .i64 t.base) ∧ w'.cell? ⟨g, o + k * 8 + 5, none⟩ = some (.int .i64 t.pos) ∧ w'.cell? ⟨g, o + k * 8 + 6, none⟩ = some (.int .i64 t.en) ∧ w'.cell? ⟨g, o + k * 8 + 7, none⟩ = some (.slice ca cn cc) ∧ w'.cell? ⟨g2, o2 + k * 8, none⟩ = some (.string u.kind) ∧ w'.cell? ⟨g2, o2 + k * 8 + 1, none⟩ = some (.string u.space) ∧ w'.cell? ⟨g2, o2 + k * 8 + 2, none⟩ = some (.string u.raw) ∧ w'.cell? ⟨g2, o2 + k * 8 + 3, none⟩ = some (.string u.text) ∧ w'.cell? ⟨g2, o2 + k * 8 + 4, none⟩ = some (.int .i64 u.base) ∧ w'.cell? ⟨g2, o2 + k * 8 + 5, none⟩ = some (.int .i64 u.pos) ∧ w'.cell? ⟨g2, o2 + k * 8 + 6, none⟩ = some (.int .i64 u.en) ∧ w'.cell? ⟨g2, o2 + k * 8 + 7, none⟩ = some (.slice da dn dc)) := fun w' hb => by
        have hg1 : g < wr.heap.size := World.block_lt_of_cell? _ _ q0
        have hg2 : g2 < wr.heap.size := World.block_lt_of_cell? _ _ u0
        have k1 : ∀ i, w'.cell? ⟨g, i, none⟩ = wr.cell? ⟨g, i, none⟩ := fun i => hb.cell (p := ⟨g, i, none⟩) hg1
        have k2 : ∀ i, w'.cell? ⟨g2, i, none⟩ = wr.cell? ⟨g2, i, none⟩ := fun i => hb.cell (p := ⟨g2, i, none⟩) hg2
        exact ⟨(k1 _).trans q0, (k1 _).trans q1, (k1 _).trans q2, (k1 _).trans q3, (k1 _).trans q4, (k1 _).trans q5, (k1 _).trans q6, (k1 _).trans q7, (k2 _).trans u0, (k2 _).trans u1, (k2 _).trans u2, (k2 _).trans u3, (k2 _).trans u4, (k2 _).trans u5, (k2 _).trans u6, (k2 _).trans u7⟩
      have HKp := Lib.hid hkeep
      have HD := Lib.hid ((Below.refl wr.heap.size wr).drew)
      clear hkeep
      go_wp2_with fail
      go_region_held3 (fun w' => w'.cell? ⟨g, o + k * 8, none⟩ = some (.string t.kind) ∧ w'.cell? ⟨g, o + k * 8 + 1, none⟩ = some (.string t.space) ∧ w'.cell? ⟨g, o + k * 8 + 2, none⟩ = some (.string t.raw) ∧ w'.cell? ⟨g, o + k * 8 + 3, none⟩ = some (.string t.text) ∧ w'.cell? ⟨g, o + k * 8 + 4, none⟩ = some (.int .i64 t.base) ∧ w'.cell? ⟨g, o + k * 8 + 5, none⟩ = some (.int .i64 t.pos) ∧ w'.cell? ⟨g, o + k * 8 + 6, none⟩ = some (.int .i64 t.en) ∧ w'.cell? ⟨g, o + k * 8 + 7, none⟩ = some (.slice ca cn cc) ∧ w'.cell? ⟨g2, o2 + k * 8, none⟩ = some (.string u.kind) ∧ w'.cell? ⟨g2, o2 + k * 8 + 1, none⟩ = some (.string u.space) ∧ w'.cell? ⟨g2, o2 + k * 8 + 2, none⟩ = some (.string u.raw) ∧ w'.cell? ⟨g2, o2 + k * 8 + 3, none⟩ = some (.string u.text) ∧ w'.cell? ⟨g2, o2 + k * 8 + 4, none⟩ = some (.int .i64 u.base) ∧ w'.cell? ⟨g2, o2 + k * 8 + 5, none⟩ = some (.int .i64 u.pos) ∧ w'.cell? ⟨g2, o2 + k * 8 + 6, none⟩ = some (.int .i64 u.en) ∧ w'.cell? ⟨g2, o2 + k * 8 + 7, none⟩ = some (.slice da dn dc)) (first | exact HKp.out _ HD.out | exact HKp.out _ (HD.out.trans (hb5.mono (Nat.le_refl _)))) ((go_at_call 14; refine (alike_yes t u _ _ _ _ _ _ _ HAL.out).mono ?_; rintro e w5 ⟨rfl, hb5⟩))
      have HB5 := Lib.hid (bel2' HB.out (HD.out.trans (hb5.mono (Nat.le_refl _))))
      clear q0 q1 q2 q3 q4 q5 q6 q7 u0 u1 u2 u3 u4 u5 u6 u7
      go_wp2_with fail
      go_roundg (n - (k + 1))
      case measure => omega
      case rel => exact ⟨k + 1, rfl, by go_num, by omega, HB5⟩
    · go_wp2_with fail
      go_ret
      exact ⟨rfl, HB.out⟩

end Go.Proofs.YtngofbhlhcalpaaGreatDoor.lexer

namespace Go.Proofs.YtngofbhlhcalpaaGreatDoor.lexer
open Go.RowKit Go.Proofs.YtngofbhlhcalpaaGreatDoor.gen

theorem bel2 {w w1 w2 : World} (h : Below w.heap.size w w1) (k : Below w1.heap.size w1 w2) : Below w.heap.size w w2 := h.trans (k.mono h.size)

theorem ext_len (s : ByteArray) (a b : Nat) (h : b ≤ s.size) : (s.extract a b).toList.length = b - a := by
  rw [ByteArray.toList_eq, ByteArray.data_extract, Array.toList_extract, List.extract_eq_take_drop, List.length_take, List.length_drop, len_list]
  omega
theorem toList_data (k : ByteArray) : k.toList = k.data.toList := ByteArray.toList_eq k

/-- What is told of a token in memory. -/
theorem elem_facts {s : ByteArray} {o : Option Nat} {n i : Nat} {e : Nat × Nt} (h : Elem 0 s.size o n i e) :
    (((itOf s e).kind.toList == [60, 101, 111, 102, 62]) = false ∧ (itOf s e).raw.toList.isEmpty = false ∧ (o = none → ((i : Int) == (n : Int) - 1) = false)) ∨
    (((itOf s e).kind.toList == [60, 101, 111, 102, 62]) = true ∧ (itOf s e).raw.toList.isEmpty = true ∧ o = none ∧ ((i : Int) == (n : Int) - 1) = true) := by
  obtain ⟨_, h2, h3⟩ := h
  have hl := ext_len s (e.1 + e.2.pre) (e.1 + e.2.len) h2
  rcases h3 with ⟨h4, h5⟩ | ⟨h4, h5, h6⟩
  · left
    refine ⟨?_, ?_, fun ho => ?_⟩
    · rw [beq_eq_false_iff_ne, toList_data]
      exact kind_ne_list h4.2
    · cases e0 : (itOf s e).raw.toList with
      | cons c r => rfl
      | nil =>
        have e0 : (s.extract (e.1 + e.2.pre) (e.1 + e.2.len)).toList = [] := e0
        rw [e0] at hl
        have := h4.1
        unfold Nt.len at hl
        simp at hl
        omega
    · have := h5 ho
      rw [beq_eq_false_iff_ne]; omega
  · right
    refine ⟨?_, ?_, h5, ?_⟩
    · rw [beq_iff_eq, toList_data]
      show e.2.tk.kind.data.toList = _
      rw [h4]; rfl
    · have hz : e.2.len = e.2.pre := by unfold Nt.len; rw [h4]; rfl
      have e0 : (itOf s e).raw.toList = [] := by
        refine List.eq_nil_of_length_eq_zero ?_
        show (s.extract (e.1 + e.2.pre) (e.1 + e.2.len)).toList.length = 0
        rw [hl, hz]; omega
      rw [e0]; rfl
    · rw [beq_iff_eq]; omega

theorem lexAll_elem (s : ByteArray) : (∀ i e, (lexAll s).1[i]? = some e → Elem 0 s.size (lexAll s).2 (lexAll s).1.length i e) ∧
    (∀ o, (lexAll s).2 = some o → o ≤ s.size ∧ 0 < s.size) ∧ ((lexAll s).2 = none → 0 < (lexAll s).1.length) ∧ (lexAll s).1.length ≤ s.size + 1 := by
  have h := lexL_elem _ kNone false s.data.toList 0 (Nat.le_refl _)
  rw [len_list, Nat.zero_add] at h
  exact h

theorem ToksAt.reads {w : World} {base g n cap : Nat} {ts : List IT} (h : ToksAt w base (.slice (some ⟨g, 0, none⟩) n cap) ts) : Reads w g 0 ts := fun i t ht => ⟨base, by rw [Nat.zero_add]; exact h.at_ i t ht⟩
theorem Alikes.refl (ts : List IT) : Alikes ts ts := ⟨rfl, fun i t u h1 h2 => by rw [h1] at h2; cases h2; exact ⟨rfl, rfl, rfl, rfl⟩⟩

end Go.Proofs.YtngofbhlhcalpaaGreatDoor.lexer

namespace Go.Proofs.YtngofbhlhcalpaaGreatDoor.lexer
open Go.RowKit Go.Proofs.YtngofbhlhcalpaaGreatDoor.gen

theorem ext_raw' (s : ByteArray) (a b : Nat) : (s.extract a b).data.toList = (s.data.toList.drop a).take (b - a) := by
  rw [ByteArray.data_extract, Array.toList_extract, List.extract_eq_take_drop]

theorem raw_view (s : ByteArray) (e : Nat × Nt) : (itOf s e).raw.data.toList = (s.data.toList.drop (view e).1).take (view e).2.n := by
  show (s.extract (e.1 + e.2.pre) (e.1 + e.2.len)).data.toList = _
  rw [ext_raw']
  unfold view Nt.len
  rw [show e.1 + (e.2.pre + e.2.tk.n) - (e.1 + e.2.pre) = e.2.tk.n from by omega]

theorem ba_ext' {a b : ByteArray} (h : a.data.toList = b.data.toList) : a = b := by
  cases a with
  | mk x =>
    cases b with
    | mk y =>
      have : x = y := by
        have := congrArg List.toArray h
        simpa using this
      rw [this]

theorem alike_first {s u : ByteArray} {e e' : Nat × Nt} {r : List UInt8} (hu : u.data.toList = s.data.toList ++ r) (hv : view e' = view e) (hin : e.1 + e.2.len ≤ s.size) : Alike (itOf s e) (itOf u e') := by
  have htk : e'.2.tk = e.2.tk := congrArg Prod.snd hv
  refine ⟨?_, ?_, ?_, ?_⟩
  · show e.2.tk.kind = e'.2.tk.kind; rw [htk]
  · refine ba_ext' ?_
    rw [raw_view, raw_view, hv, hu]
    have h1 : (view e).1 + (view e).2.n ≤ s.data.toList.length := by
      rw [len_list]
      unfold view
      unfold Nt.len at hin
      simp only
      omega
    rw [drop_app _ (by omega), List.take_append_of_le_length (by rw [List.length_drop]; omega)]
  · show e.2.tk.text = e'.2.tk.text; rw [htk]
  · show e.2.tk.base = e'.2.tk.base; rw [htk]

theorem alike_second {t u : ByteArray} {e e' : Nat × Nt} {x : List UInt8} (hu : u.data.toList = x ++ t.data.toList) (hv : view e' = shv x.length (view e)) : Alike (itOf t e) (itOf u e') := by
  have htk : e'.2.tk = e.2.tk := congrArg Prod.snd hv
  refine ⟨?_, ?_, ?_, ?_⟩
  · show e.2.tk.kind = e'.2.tk.kind; rw [htk]
  · refine ba_ext' ?_
    rw [raw_view, raw_view, hv, hu]
    show (t.data.toList.drop (view e).1).take (view e).2.n = ((x ++ t.data.toList).drop ((view e).1 + x.length)).take (view e).2.n
    rw [Nat.add_comm, ← List.drop_drop, List.drop_left]
  · show e.2.tk.text = e'.2.tk.text; rw [htk]
  · show e.2.tk.base = e'.2.tk.base; rw [htk]

/-- The text between. -/
structure Joined (s t u : ByteArray) : Prop where
  data : u.data.toList = s.data.toList ++ 10 :: t.data.toList

theorem Joined.size {s t u : ByteArray} (h : Joined s t u) : u.size = s.size + 1 + t.size := by
  have := congrArg List.length h.data
  rw [len_list, List.length_append, List.length_cons, len_list, len_list] at this
  omega

structure JoinRes (s t u : ByteArray) : Prop where
  len : (lexAll u).1.length = (lexAll s).1.length - 1 + (lexAll t).1.length
  bad : (lexAll u).2 = (lexAll t).2.map (· + (s.size + 1))
  fst : ∀ (i : Nat) a b, i + 1 < (lexAll s).1.length → ((lexAll s).1.map (itOf s))[i]? = some a → ((lexAll u).1.map (itOf u))[i]? = some b → Alike a b
  snd : ∀ (i : Nat) a b, ((lexAll t).1.map (itOf t))[i]? = some a → ((lexAll u).1.map (itOf u))[(lexAll s).1.length - 1 + i]? = some b → Alike a b

theorem join_res {s t u : ByteArray} (hj : Joined s t u) (hs : (lexAll s).2 = none) (hp : ∀ x ∈ (lexAll s).1.map (itOf s), ¬ (x.kind.data.toList = [46] ∨ ∃ r, x.raw.data.toList = 46 :: r)) (ht : (46 : UInt8) ∉ t.data.toList) : JoinRes s t u := by
  have hl : Lexd kNone false s.data.toList 0 (lexAll s).1 := lexd_of _ _ _ _ _ _ (Nat.le_refl _) (Prod.ext rfl hs)
  have h46 : ∀ e ∈ (lexAll s).1, ∀ r, rawOf s.data.toList e ≠ 46 :: r := fun e he r e2 => by
    apply hp _ (List.mem_map.2 ⟨e, he, rfl⟩)
    right
    refine ⟨r, ?_⟩
    rw [raw_view]
    exact e2
  obtain ⟨j1, j2⟩ := join_all (S := s.data.toList) ht hl rfl rfl h46
  rw [← hj.data, len_list, Nat.zero_add] at j1 j2
  have j1 : (lexAll u).1.map view = (lexAll s).1.dropLast.map view ++ ((lexAll t).1.map view).map (shv (s.size + 1)) := j1
  have hlen : (lexAll u).1.length = (lexAll s).1.length - 1 + (lexAll t).1.length := by
    have := congrArg List.length j1
    simpa using this
  have hel := (lexL_elem _ kNone false s.data.toList 0 (Nat.le_refl _)).1
  refine ⟨hlen, j2, fun i a b hi ha hb => ?_, fun i a b ha hb => ?_⟩
  · rw [List.getElem?_map] at ha hb
    cases hea : (lexAll s).1[i]? with
    | none => rw [hea] at ha; cases ha
    | some ea =>
      cases heb : (lexAll u).1[i]? with
      | none => rw [heb] at hb; cases hb
      | some eb =>
        rw [hea] at ha
        rw [heb] at hb
        simp only [Option.map_some, Option.some.injEq] at ha hb
        subst ha hb
        have h1 := congrArg (·[i]?) j1
        simp only [List.getElem?_map] at h1
        rw [heb, List.getElem?_append_left (by simp; omega), List.getElem?_map, List.getElem?_dropLast, if_pos (by omega), hea] at h1
        simp only [Option.map_some, Option.some.injEq] at h1
        have h2 := (hel i ea hea).2.1
        rw [len_list, Nat.zero_add] at h2
        exact alike_first hj.data h1 h2
  · rw [List.getElem?_map] at ha hb
    cases hea : (lexAll t).1[i]? with
    | none => rw [hea] at ha; cases ha
    | some ea =>
      cases heb : (lexAll u).1[(lexAll s).1.length - 1 + i]? with
      | none => rw [heb] at hb; cases hb
      | some eb =>
        rw [hea] at ha
        rw [heb] at hb
        simp only [Option.map_some, Option.some.injEq] at ha hb
        subst ha hb
        have h1 := congrArg (·[(lexAll s).1.length - 1 + i]?) j1
        simp only [List.getElem?_map] at h1
        rw [heb, List.getElem?_append_right (by simp)] at h1
        simp only [List.length_map, List.length_dropLast, Nat.add_sub_cancel_left, List.getElem?_map, hea, Option.map_some, Option.some.injEq] at h1
        refine alike_second (x := s.data.toList ++ [10]) (by rw [hj.data, List.append_assoc]; rfl) ?_
        rw [h1, List.length_append, len_list]
        rfl

end Go.Proofs.YtngofbhlhcalpaaGreatDoor.lexer

namespace Go.Proofs.YtngofbhlhcalpaaGreatDoor.lexer
open Go.RowKit Go.Proofs.YtngofbhlhcalpaaGreatDoor.gen

theorem list_of {k : ByteArray} (l : List UInt8) : (k.toList == l) = decide (k.data.toList = l) := by
  rw [ByteArray.toList_eq]
  by_cases h : k.data.toList = l
  · simp [h]
  · simp [h]

set_option maxRecDepth 100000 in
theorem fields_no (ao : Option Addr) (n cap base : Nat) (ts : List IT) (w : World) (hn : n = ts.length) (hn2 : n ≤ 2147483647) (hT : ToksAt w base (.slice ao n cap) ts) (hz : ∀ t ∈ ts, t.raw.size ≤ 2147483647) (h : ∀ t ∈ ts, ¬ Pt t) :
    Calls Tryz.prog 13 #[.slice ao n cap] w fun e w' => e = .returned (.bool false) ∧ w = w' := by
  have HH := Lib.hid h
  have HT0 := Lib.hid hT
  have HZ := Lib.hid hz
  rcases hT.shape with ⟨hv, h3⟩ | ⟨g, cap2, hv, _⟩
  · cases hv
    clear h hT hn hz h3
    go_enter Tryz.func13, Tryz.ntmps13
    go_wp2_with fail
    go_loopg [6] 0 (fun g' i wr => wr = w ∧ i = .int .i64 0)
    case atStart => exact ⟨rfl, rfl⟩
    case round =>
      obtain ⟨rfl, rfl⟩ := hrel
      go_wp2_with fail
      go_ret
      exact ⟨rfl, rfl⟩
  · cases hv
    have HT : Hid (ToksAt w base (.slice (some ⟨g, 0, none⟩) ts.length cap) ts) := HT0
    clear h hT hn hz
    obtain ⟨n, hn⟩ : ∃ n, ts.length = n := ⟨_, rfl⟩
    have HNn := Lib.hid hn
    rw [hn] at HT hn2 ⊢
    clear hn HT0
    go_enter Tryz.func13, Tryz.ntmps13
    go_wp2_with fail
    go_loopg [6] n (fun g' i wr => wr = w ∧ ∃ k : Nat, g' = n - k ∧ i = .int .i64 k ∧ k ≤ n)
    case atStart => exact ⟨rfl, 0, rfl, rfl, Nat.zero_le _⟩
    case round =>
      obtain ⟨rfl, k, hg, rfl, hk⟩ := hrel
      by_cases hlt : k < n
      · skip
        have hkl : k < ts.length := by
          have h2 : ts.length = n := HNn.out
          omega
        obtain ⟨t, hxt⟩ : ∃ t, ts[k]? = some t := ⟨_, List.getElem?_eq_getElem hkl⟩
        have hTA := HT.out.at_ k t hxt
        have q0 := hTA.kind
        have q2 := hTA.raw
        have hi0 : (0 : Int) ≤ (k : Int) := by omega
        have hi1 : (k : Int) < (n : Int) := by omega
        have hkw : IntKind.i64.wrap ((k : Int) + 1) = (k : Int) + 1 := IntWalk.i64_in _ (by omega)
        have hmem : t ∈ ts := List.mem_of_getElem? hxt
        have hrz : t.raw.size ≤ 2147483647 := HZ.out t hmem
        have HX := Lib.hid hxt
        clear hxt hTA
        have hnp := HH.out t hmem
        have he : (t.kind.toList == [46]) = false := by
          rw [list_of, decide_eq_false_iff_not]
          exact fun e => hnp (.inl e)
        have HNP := Lib.hid hnp
        clear hnp
        go_wp2_with (go_at_call 30; refine (begins_no t.raw _ hrz (fun r e => HNP.out (.inr ⟨r, e⟩))).mono ?_; rintro e w' ⟨rfl, rfl⟩)
        go_roundg (n - (k + 1))
        case measure => omega
        case rel => exact ⟨rfl, k + 1, rfl, by go_num, by omega⟩
      · go_wp2_with fail
        go_ret
        exact ⟨rfl, rfl⟩

set_option maxRecDepth 100000 in
theorem fields_yes (ao : Option Addr) (n cap base : Nat) (ts : List IT) (w : World) (hn : n = ts.length) (hn2 : n ≤ 2147483647) (hT : ToksAt w base (.slice ao n cap) ts) (hz : ∀ t ∈ ts, t.raw.size ≤ 2147483647) (h : ∃ t ∈ ts, Pt t) :
    Calls Tryz.prog 13 #[.slice ao n cap] w fun e w' => e = .returned (.bool true) ∧ w = w' := by
  have HH := Lib.hid h
  have HT0 := Lib.hid hT
  have HZ := Lib.hid hz
  rcases hT.shape with ⟨hv, h3⟩ | ⟨g, cap2, hv, _⟩
  · obtain ⟨t, ht, _⟩ := h
    rw [h3] at ht
    cases ht
  · cases hv
    have HT : Hid (ToksAt w base (.slice (some ⟨g, 0, none⟩) ts.length cap) ts) := HT0
    clear h hT hn hz
    obtain ⟨n, hn⟩ : ∃ n, ts.length = n := ⟨_, rfl⟩
    have HNn := Lib.hid hn
    rw [hn] at HT hn2 ⊢
    clear hn HT0
    go_enter Tryz.func13, Tryz.ntmps13
    go_wp2_with fail
    go_loopg [6] n (fun g' i wr => wr = w ∧ ∃ k : Nat, g' = n - k ∧ i = .int .i64 k ∧ k ≤ n ∧ Hid (∀ j t, j < k → ts[j]? = some t → ¬ Pt t))
    case atStart => exact ⟨rfl, 0, rfl, rfl, Nat.zero_le _, fun j t h => by omega⟩
    case round =>
      obtain ⟨rfl, k, hg, rfl, hk, HJ⟩ := hrel
      by_cases hlt : k < n
      · skip
        have hkl : k < ts.length := by
          have h2 : ts.length = n := HNn.out
          omega
        obtain ⟨t, hxt⟩ : ∃ t, ts[k]? = some t := ⟨_, List.getElem?_eq_getElem hkl⟩
        have hTA := HT.out.at_ k t hxt
        have q0 := hTA.kind
        have q2 := hTA.raw
        have hi0 : (0 : Int) ≤ (k : Int) := by omega
        have hi1 : (k : Int) < (n : Int) := by omega
        have hkw : IntKind.i64.wrap ((k : Int) + 1) = (k : Int) + 1 := IntWalk.i64_in _ (by omega)
        have hmem : t ∈ ts := List.mem_of_getElem? hxt
        have hrz : t.raw.size ≤ 2147483647 := HZ.out t hmem
        have HX := Lib.hid hxt
        clear hxt hTA
        by_cases hp1 : t.kind.data.toList = [46]
        · have he : (t.kind.toList == [46]) = true := by rw [list_of, decide_eq_true_eq]; exact hp1
          clear hp1
          go_wp2_with fail
          go_ret
          exact ⟨rfl, rfl⟩
        · have he : (t.kind.toList == [46]) = false := by rw [list_of, decide_eq_false_iff_not]; exact hp1
          by_cases hp2 : ∃ r, t.raw.data.toList = 46 :: r
          · have HP2 := Lib.hid hp2
            clear hp1 hp2
            go_wp2_with (go_at_call 30; refine (begins_yes t.raw _ hrz HP2.out).mono ?_; rintro e w' ⟨rfl, rfl⟩)
            go_ret
            exact ⟨rfl, rfl⟩
          · have HP2 := Lib.hid hp2
            have HJ2 := Lib.hid (show ∀ j t, j < k + 1 → ts[j]? = some t → ¬ Pt t from fun j t' hj ht' => by
              rcases Nat.lt_or_ge j k with h3 | h3
              · exact HJ.out j t' h3 ht'
              · obtain rfl : j = k := by omega
                rw [HX.out] at ht'
                cases ht'
                rintro (e | e)
                · exact hp1 e
                · exact hp2 e)
            clear hp1 hp2
            go_wp2_with (go_at_call 30; refine (begins_no t.raw _ hrz (fun r e => HP2.out ⟨r, e⟩)).mono ?_; rintro e w' ⟨rfl, rfl⟩)
            go_roundg (n - (k + 1))
            case measure => omega
            case rel => exact ⟨rfl, k + 1, rfl, by go_num, by omega, HJ2⟩
      · exfalso
        obtain ⟨t, ht, hp⟩ := HH.out
        obtain ⟨j, hj⟩ := List.getElem?_of_mem ht
        have hjl := (List.getElem?_eq_some_iff.1 hj).1
        exact HJ.out j t (by have := HNn.out; omega) hj hp

end Go.Proofs.YtngofbhlhcalpaaGreatDoor.lexer

namespace Go.Proofs.YtngofbhlhcalpaaGreatDoor.lexer
open Go.RowKit Go.Proofs.YtngofbhlhcalpaaGreatDoor.gen Go.Proofs.YtngofbhlhcalpaaGreatDoor.lines

set_option maxRecDepth 10000 in
theorem within_no (s : ByteArray) (w : World) (hs : s.size ≤ 2147483647) (h : (46 : UInt8) ∉ s.data.toList) : Calls Tryz.prog 15 #[.string s, .string ⟨#[46]⟩] w fun e w' => e = .returned (.bool false) ∧ w = w' := by
  have HH := Lib.hid h
  clear h
  go_enter Tryz.func15, Tryz.ntmps15
  go_wp2_with fail
  go_loopg [5] s.size (fun g i wr => wr = w ∧ ∃ k : Nat, g = s.size - k ∧ i = .int .i64 k ∧ k ≤ s.size)
  case atStart => exact ⟨rfl, 0, rfl, rfl, Nat.zero_le _⟩
  case round =>
    obtain ⟨rfl, k, hg, rfl, hk⟩ := hrel
    have hkw : IntKind.i64.wrap ((k : Int) + 1) = (k : Int) + 1 := IntWalk.i64_in _ (by omega)
    by_cases hlt : k < s.size
    · have hi0 : (0 : Int) ≤ (k : Int) := by omega
      have hi1 : (k : Int) + 1 ≤ (s.size : Int) := by omega
      have hi2 : ((k : Int) + 1).toNat = k + 1 := by omega
      have he : ((s.extract k (k + 1)).toList == [46]) = false := by
        rw [ext_one s k hlt, beq_eq_false_iff_ne]
        intro e
        apply HH.out
        have h2 := byte_at s k hlt
        have h3 : s[k] = 46 := by simpa using e
        rw [h3] at h2
        exact List.mem_of_getElem? h2
      go_wp2_with fail
      go_roundg (s.size - (k + 1))
      case measure => omega
      case rel => exact ⟨rfl, k + 1, rfl, by go_num, by omega⟩
    · have hi1 : ¬ (k : Int) + 1 ≤ (s.size : Int) := by omega
      go_wp2_with fail
      go_ret
      exact ⟨rfl, rfl⟩

set_option maxRecDepth 10000 in
theorem within_yes (s : ByteArray) (w : World) (hs : s.size ≤ 2147483647) (h : (46 : UInt8) ∈ s.data.toList) : Calls Tryz.prog 15 #[.string s, .string ⟨#[46]⟩] w fun e w' => e = .returned (.bool true) ∧ w = w' := by
  have HH := Lib.hid h
  clear h
  go_enter Tryz.func15, Tryz.ntmps15
  go_wp2_with fail
  go_loopg [5] s.size (fun g i wr => wr = w ∧ ∃ k : Nat, g = s.size - k ∧ i = .int .i64 k ∧ k ≤ s.size ∧ Hid (∀ j (h : j < s.size), j < k → s[j] ≠ 46))
  case atStart => exact ⟨rfl, 0, rfl, rfl, Nat.zero_le _, fun j _ h => by omega⟩
  case round =>
    obtain ⟨rfl, k, hg, rfl, hk, HJ⟩ := hrel
    have hkw : IntKind.i64.wrap ((k : Int) + 1) = (k : Int) + 1 := IntWalk.i64_in _ (by omega)
    by_cases hlt : k < s.size
    · have hi0 : (0 : Int) ≤ (k : Int) := by omega
      have hi1 : (k : Int) + 1 ≤ (s.size : Int) := by omega
      have hi2 : ((k : Int) + 1).toNat = k + 1 := by omega
      by_cases hc : s[k] = 46
      · have he : ((s.extract k (k + 1)).toList == [46]) = true := by rw [ext_one s k hlt, hc]; rfl
        clear hc
        go_wp2_with fail
        go_ret
        exact ⟨rfl, rfl⟩
      · have he : ((s.extract k (k + 1)).toList == [46]) = false := by
          rw [ext_one s k hlt, beq_eq_false_iff_ne]
          intro e
          exact hc (by simpa using e)
        have HJ2 := Lib.hid (show ∀ j (h : j < s.size), j < k + 1 → s[j] ≠ 46 from fun j h h1 => by
          rcases Nat.lt_or_ge j k with h3 | h3
          · exact HJ.out j h h3
          · obtain rfl : j = k := by omega
            exact hc)
        clear hc
        go_wp2_with fail
        go_roundg (s.size - (k + 1))
        case measure => omega
        case rel => exact ⟨rfl, k + 1, rfl, by go_num, by omega, HJ2⟩
    · exfalso
      obtain ⟨j, hj⟩ := List.getElem?_of_mem HH.out
      have hjl := (List.getElem?_eq_some_iff.1 hj).1
      rw [len_list] at hjl
      rw [byte_at s j hjl] at hj
      exact HJ.out j hjl (by omega) (by simpa using hj)

end Go.Proofs.YtngofbhlhcalpaaGreatDoor.lexer
