/-
  Lemmas and contracts of this claim, texts Tail, GapP, EndQ, AloneP, EndR, TokT, LexD, BackP. No statement of the seat is proved here.
-/
import Derived.Test.YtngofbhlhcalpaaGreatDoorZ01
import Derived.Deep.DeepCutAuto
import Derived.Deep.CutBlock
import Derived.Deep.LoopGhost
import Derived.Test.YtngofbhlhcalpaaGreatDoorZ00
namespace Go.Proofs.YtngofbhlhcalpaaGreatDoor.lexer
open Go.RowKit Go.Proofs.YtngofbhlhcalpaaGreatDoor.gen
open Go.Proofs.YtngofbhlhcalpaaGreatDoor.upper (up isKw upb upb_lo upb_no)

/-- What may stand behind a token in the place of u: nothing, a line's end, or something with the same first byte. -/
def Fol (u v : List UInt8) : Prop := v = [] ∨ (∃ r, v = 10 :: r) ∨ ∃ c r r', u = c :: r ∧ v = c :: r'

theorem Fol.stop (u : List UInt8) : Fol u [] := .inl rfl
theorem Fol.line (u r : List UInt8) : Fol u (u ++ 10 :: r) := by
  cases u with
  | nil => exact .inr (.inl ⟨r, rfl⟩)
  | cons c t => exact .inr (.inr ⟨c, t, t ++ 10 :: r, rfl, rfl⟩)

section
variable {u v : List UInt8}
theorem Fol.idp (h : Fol u v) (hu : idpHead u = false) : idpHead v = false := by
  rcases h with rfl | ⟨r, rfl⟩ | ⟨c, r, r', rfl, rfl⟩
  · rfl
  · exact (by decide : idp (nn 10) = false)
  · exact hu
theorem Fol.ids (h : Fol u v) (hu : idsHead u = false) : idsHead v = false := by
  rcases h with rfl | ⟨r, rfl⟩ | ⟨c, r, r', rfl, rfl⟩
  · rfl
  · exact (by decide : lexer.ids (nn 10) = false)
  · exact hu
theorem Fol.dg (h : Fol u v) (hu : dgHead u = false) : dgHead v = false := by
  rcases h with rfl | ⟨r, rfl⟩ | ⟨c, r, r', rfl, rfl⟩
  · rfl
  · exact (by decide : lexer.dg (nn 10) = false)
  · exact hu
end

theorem idp_of_dg {c : Int} (h : dg c = true) : idp c = true := by unfold idp; rw [h]; rfl
theorem idp_of_hx {c : Int} (h : idp c = false) : hx c = false := by
  unfold idp at h
  simp only [Bool.or_eq_false_iff] at h
  obtain ⟨h1, h2⟩ := h
  unfold ids at h2
  simp only [Bool.or_eq_false_iff, Bool.and_eq_false_iff, decide_eq_false_iff_not] at h2
  unfold hx
  rw [h1]
  simp only [Bool.false_or, Bool.or_eq_false_iff, Bool.and_eq_false_iff, decide_eq_false_iff_not]
  omega
theorem idp_letters {c : Int} (h : idp c = false) : c ≠ 69 ∧ c ≠ 101 ∧ c ≠ 66 ∧ c ≠ 98 ∧ c ≠ 82 ∧ c ≠ 114 := by
  refine ⟨?_, ?_, ?_, ?_, ?_, ?_⟩ <;> (rintro rfl; revert h; decide)
theorem dgHead_idp {u : List UInt8} (h : idpHead u = false) : dgHead u = false := by
  cases u with
  | nil => rfl
  | cons c r =>
    cases hd : dg (nn c) with
    | false => exact hd
    | true => have := idp_of_dg hd; rw [show idpHead (c :: r) = idp (nn c) from rfl, this] at h; cases h

theorem idLen_full : ∀ (x u : List UInt8), idLen (x ++ u) = x.length → (∀ c ∈ x, idp (nn c) = true) ∧ idpHead u = false := by
  intro x
  induction x with
  | nil =>
    intro u h
    refine ⟨fun c hc => (by cases hc), ?_⟩
    cases u with
    | nil => rfl
    | cons c r =>
      simp only [List.nil_append, List.length_nil, idLen] at h
      split at h
      · omega
      · rename_i hc; simpa [idpHead] using hc
  | cons c x ih =>
    intro u h
    simp only [List.cons_append, idLen, List.length_cons] at h
    split at h
    · rename_i hc
      obtain ⟨h1, h2⟩ := ih u (by omega)
      refine ⟨fun d hd => ?_, h2⟩
      rcases List.mem_cons.1 hd with rfl | hd
      · exact hc
      · exact h1 d hd
    · omega
theorem idLen_app : ∀ (x v : List UInt8), (∀ c ∈ x, idp (nn c) = true) → idpHead v = false → idLen (x ++ v) = x.length := by
  intro x
  induction x with
  | nil =>
    intro v _ h
    cases v with
    | nil => rfl
    | cons c r =>
      have h : idp (nn c) = false := h
      simp [idLen, h]
  | cons c x ih =>
    intro v h h2
    have := ih v (fun d hd => h d (List.mem_cons_of_mem _ hd)) h2
    simp only [List.cons_append, idLen, h c (List.mem_cons_self ..), if_true, this, List.length_cons]

theorem numU_nonid (c : UInt8) (r : List UInt8) (b i e : Bool) (h : idp (nn c) = false) :
    numU (c :: r) b i e = if !e && i && !b && (nn c == 46) then ((numU r b false e).1 + 1, (numU r b false e).2) else (0, i) := by
  have h1 : dg (nn c) = false := by cases hd : dg (nn c) with
    | false => rfl
    | true => rw [idp_of_dg hd] at h; cases h
  have h2 := idp_of_hx h
  have h3 := idp_letters h
  rw [numU.eq_def]
  simp [h1, h2, h3.1, h3.2.1]

theorem numU_zero (u : List UInt8) (b i e : Bool) (h : (numU u b i e).1 = 0) : (numU u b i e).2 = i := by
  cases u with
  | nil => rfl
  | cons c r =>
    unfold numU at h ⊢
    split
    · rename_i h1; rw [if_pos h1] at h; simp at h
    · rename_i h1
      rw [if_neg h1] at h
      split
      · rename_i h2; rw [if_pos h2] at h; simp at h
      · rename_i h2
        rw [if_neg h2] at h
        split
        · rename_i h3; rw [if_pos h3] at h; simp at h
        · rename_i h3
          rw [if_neg h3] at h
          split
          · rename_i h4
            rw [if_pos h4] at h
            cases r with
            | nil => rfl
            | cons d r2 =>
              simp only at h ⊢
              split
              · rename_i h5
                rw [if_pos h5] at h
                split
                · rename_i h6; rw [if_pos h6] at h; simp at h
                · rfl
              · rename_i h5
                rw [if_neg h5] at h
                split
                · rename_i h6; rw [if_pos h6] at h; simp at h
                · rfl
          · rfl

theorem numU_tail : ∀ (m : Nat) (x u v : List UInt8) (b i e j : Bool), x.length ≤ m → idpHead u = false → Fol u v → numU (x ++ u) b i e = (x.length, j) → numU (x ++ v) b i e = (x.length, j) := by
  intro m
  induction m with
  | zero =>
    intro x u v b i e j hm hu hf h
    obtain rfl : x = [] := List.eq_nil_of_length_eq_zero (by omega)
    simp only [List.nil_append, List.length_nil] at h ⊢
    have hj : j = i := by
      have := numU_zero u b i e (by rw [h])
      rw [h] at this
      exact this
    subst hj
    rcases hf with rfl | ⟨r, rfl⟩ | ⟨c, r, r', rfl, rfl⟩
    · rfl
    · rw [numU_nonid 10 r b j e (by decide)]
      rw [if_neg (by simp [show (nn 10 == 46) = false from by decide])]
    · rw [numU_nonid c r b j e hu] at h
      rw [numU_nonid c r' b j e hu]
      split at h
      · simp at h
      · rename_i h1; rw [if_neg h1]
  | succ m ih =>
    intro x u v b i e j hm hu hf h
    cases x with
    | nil => exact ih [] u v b i e j (Nat.zero_le _) hu hf h
    | cons c x =>
      simp only [List.length_cons] at hm
      simp only [List.cons_append, List.length_cons] at h ⊢
      have key : ∀ i' e', ((numU (x ++ u) b i' e').1 + 1, (numU (x ++ u) b i' e').2) = (x.length + 1, j) → ((numU (x ++ v) b i' e').1 + 1, (numU (x ++ v) b i' e').2) = (x.length + 1, j) := by
        intro i' e' h
        simp only [Prod.mk.injEq] at h
        have := ih x u v b i' e' j (by omega) hu hf (Prod.ext (by simp only; omega) h.2)
        rw [this]
      unfold numU at h ⊢
      split at h
      · rename_i h1
        rw [if_pos h1]
        exact key _ _ h
      · rename_i h1
        rw [if_neg h1]
        split at h
        · rename_i h2
          rw [if_pos h2]
          exact key _ _ h
        · rename_i h2
          rw [if_neg h2]
          split at h
          · rename_i h3
            rw [if_pos h3]
            exact key _ _ h
          · rename_i h3
            rw [if_neg h3]
            split at h
            · rename_i h4
              rw [if_pos h4]
              cases x with
              | nil =>
                simp only [List.nil_append] at h
                cases u with
                | nil => simp at h
                | cons d r2 =>
                  simp only at h
                  split at h
                  · split at h <;> simp at h
                  · split at h <;> simp at h
              | cons d x2 =>
                simp only [List.length_cons] at hm
                simp only [List.cons_append, List.length_cons] at h ⊢
                have key2 : ((numU (x2 ++ u) b false true).1 + 2, (numU (x2 ++ u) b false true).2) = (x2.length + 1 + 1, j) → ((numU (x2 ++ v) b false true).1 + 2, (numU (x2 ++ v) b false true).2) = (x2.length + 1 + 1, j) := by
                  intro h
                  simp only [Prod.mk.injEq] at h
                  have := ih x2 u v b false true j (by omega) hu hf (Prod.ext (by simp only; omega) h.2)
                  rw [this]
                split at h
                · rename_i h5
                  rw [if_pos h5]
                  split at h
                  · rename_i h6
                    have h7 : dgHead (x2 ++ v) = true := by
                      cases x2 with
                      | nil => rw [List.nil_append, dgHead_idp hu] at h6; cases h6
                      | cons d2 x3 => exact h6
                    rw [if_pos h7]
                    exact key2 h
                  · simp at h
                · rename_i h5
                  rw [if_neg h5]
                  split at h
                  · rename_i h6
                    rw [if_pos h6]
                    exact key2 h
                  · simp at h
            · simp at h

theorem num_tail (c : UInt8) (x u v : List UInt8) (t : Tk) (hf : Fol u v) (h : num (c :: x ++ u) = .ok t) (hn : t.n = (c :: x).length) : num (c :: x ++ v) = .ok t ∧ idpHead u = false := by
  obtain ⟨hi, rfl⟩ := num_ok h
  have hN : numN (c :: x ++ u) = (c :: x).length := hn
  have hu : idpHead u = false := by rw [hN, List.drop_left] at hi; exact hi
  have key : isHexNum (c :: x ++ v) = isHexNum (c :: x ++ u) ∧ numN (c :: x ++ v) = numN (c :: x ++ u) ∧ numI (c :: x ++ v) = numI (c :: x ++ u) := by
    cases hx : isHexNum (c :: x ++ u) with
    | true =>
      have hN2 : 2 + (numU ((c :: x ++ u).drop 2) true true false).1 = (c :: x).length := by
        rw [← hN]; unfold numN; rw [hx]; rfl
      cases x with
      | nil => simp only [List.length_cons, List.length_nil] at hN2; omega
      | cons d x =>
        have hd : ∀ w, (c :: d :: x ++ w).drop 2 = x ++ w := fun w => rfl
        rw [hd] at hN2
        simp only [List.length_cons] at hN2
        have h2 := numU_tail _ x u v true true false (numU (x ++ u) true true false).2 (Nat.le_refl _) hu hf (Prod.ext (by simp only; omega) rfl)
        have hx2 : isHexNum (c :: d :: x ++ v) = true := hx
        refine ⟨hx2, ?_, ?_⟩
        · unfold numN
          rw [hx, hx2]
          simp only [if_true, hd, h2]
          omega
        · unfold numI
          rw [hx, hx2]
          simp only [if_true]
    | false =>
      have hN2 : (numU (c :: x ++ u) false true false).1 = (c :: x).length := by
        rw [← hN]; unfold numN; rw [hx]; rfl
      have h2 := numU_tail _ (c :: x) u v false true false (numU (c :: x ++ u) false true false).2 (Nat.le_refl _) hu hf (Prod.ext hN2 rfl)
      have hx2 : isHexNum (c :: x ++ v) = false := by
        cases x with
        | cons d x => exact hx
        | nil =>
          rcases hf with rfl | ⟨r, rfl⟩ | ⟨d, r, r', rfl, rfl⟩
          · rfl
          · simp [isHexNum, show ¬ nn 10 = 120 from by decide, show ¬ nn 10 = 88 from by decide]
          · exact hx
      refine ⟨hx2, ?_, ?_⟩
      · unfold numN
        rw [hx, hx2]
        simp only [Bool.false_eq_true, if_false, h2, hN2]
      · unfold numI
        rw [hx, hx2]
        simp only [Bool.false_eq_true, if_false, h2]
  obtain ⟨k1, k2, k3⟩ := key
  refine ⟨?_, hu⟩
  have k4 : numB (c :: x ++ v) = numB (c :: x ++ u) := by unfold numB; rw [k1, k3]
  have k5 : numK (c :: x ++ v) = numK (c :: x ++ u) := by unfold numK; rw [k3]
  rw [num_eq, k2, k4, k5, hN, List.drop_left, hf.idp hu]
  rfl

theorem take_app {x : List UInt8} (u v : List UInt8) {k : Nat} (h : k ≤ x.length) : (x ++ u).take k = (x ++ v).take k := by
  rw [List.take_append_of_le_length h, List.take_append_of_le_length h]
theorem drop_app {x : List UInt8} (u : List UInt8) {k : Nat} (h : k ≤ x.length) : (x ++ u).drop k = x.drop k ++ u := List.drop_append_of_le_length h

theorem hexN_tail (n : Nat) (x u v : List UInt8) (h : n ≤ x.length) : hexN n (x ++ u) = hexN n (x ++ v) := by
  unfold hexN
  rw [take_app u v h]
  have h1 : n ≤ (x ++ u).length := by rw [List.length_append]; omega
  have h2 : n ≤ (x ++ v).length := by rw [List.length_append]; omega
  simp only [h1, h2]
theorem octN_tail (n : Nat) (x u v : List UInt8) (h : n ≤ x.length) : octN n (x ++ u) = octN n (x ++ v) := by
  unfold octN
  rw [take_app u v h]
  have h1 : n ≤ (x ++ u).length := by rw [List.length_append]; omega
  have h2 : n ≤ (x ++ v).length := by rw [List.length_append]; omega
  simp only [h1, h2]

theorem esc_ge {uni : Bool} {l bs : List UInt8} {k : Nat} (h : esc uni l = some (bs, k)) : 2 ≤ k := by
  cases l with
  | nil => cases h
  | cons c r =>
    rw [esc] at h
    split at h
    · cases h; omega
    · split at h
      · cases hh : hexN 2 r with
        | none => rw [hh] at h; cases h
        | some z => rw [hh] at h; cases h; omega
      · split at h
        · split at h
          · cases hh : hexN 4 r with
            | none => rw [hh] at h; cases h
            | some z =>
              rw [hh] at h
              simp only [Option.bind_some] at h
              split at h
              · cases h; omega
              · cases h
          · cases h
        · split at h
          · split at h
            · cases hh : hexN 8 r with
              | none => rw [hh] at h; cases h
              | some z =>
                rw [hh] at h
                simp only [Option.bind_some] at h
                split at h
                · cases h; omega
                · cases h
            · cases h
          · split at h
            · cases hh : octN 2 r with
              | none => rw [hh] at h; cases h
              | some z => rw [hh] at h; cases h; omega
            · cases h

theorem esc_tail {uni : Bool} {x u bs : List UInt8} {k : Nat} (v : List UInt8) (h : esc uni (x ++ u) = some (bs, k)) (hk : k ≤ x.length + 1) : esc uni (x ++ v) = some (bs, k) := by
  have h2 := esc_ge h
  cases x with
  | nil => simp only [List.length_nil] at hk; omega
  | cons c r =>
    simp only [List.length_cons] at hk
    simp only [List.cons_append] at h ⊢
    rw [esc] at h ⊢
    split at h
    · exact h
    · split at h
      · rename_i h1
        rw [if_pos h1]
        cases hh : hexN 2 (r ++ u) with
        | none => rw [hh] at h; cases h
        | some z =>
          rw [hh] at h
          have : k = 4 := by cases h; rfl
          rw [← hexN_tail 2 r u v (by omega), hh]
          exact h
      · rename_i h1
        rw [if_neg h1]
        split at h
        · rename_i h3
          rw [if_pos h3]
          split at h
          · rename_i h4
            rw [if_pos h4]
            cases hh : hexN 4 (r ++ u) with
            | none => rw [hh] at h; cases h
            | some z =>
              rw [hh] at h
              have : k = 6 := by
                simp only [Option.bind_some] at h
                split at h
                · cases h; rfl
                · cases h
              rw [← hexN_tail 4 r u v (by omega), hh]
              exact h
          · cases h
        · rename_i h3
          rw [if_neg h3]
          split at h
          · rename_i h4
            rw [if_pos h4]
            split at h
            · rename_i h5
              rw [if_pos h5]
              cases hh : hexN 8 (r ++ u) with
              | none => rw [hh] at h; cases h
              | some z =>
                rw [hh] at h
                have : k = 10 := by
                  simp only [Option.bind_some] at h
                  split at h
                  · cases h; rfl
                  · cases h
                rw [← hexN_tail 8 r u v (by omega), hh]
                exact h
            · cases h
          · rename_i h4
            rw [if_neg h4]
            split at h
            · rename_i h5
              rw [if_pos h5]
              cases hh : octN 2 (r ++ u) with
              | none => rw [hh] at h; cases h
              | some z =>
                rw [hh] at h
                have : k = 4 := by cases h; rfl
                rw [← octN_tail 2 r u v (by omega), hh]
                exact h
            · cases h

theorem qr_tail (q : List UInt8) (raw uni : Bool) (hq : 0 < q.length) : ∀ (m : Nat) (x u v bs : List UInt8) (n : Nat), x.length ≤ m → qr q raw uni (x ++ u) = (bs, n, .closed) → x.length = n + q.length → qr q raw uni (x ++ v) = (bs, n, .closed) := by
  intro m
  induction m with
  | zero => intro x u v bs n hm h hn; omega
  | succ m ih =>
    intro x u v bs n hm h hn
    cases x with
    | nil => simp only [List.length_nil] at hn; omega
    | cons c x =>
      simp only [List.length_cons] at hm hn
      have ht : ∀ w, (c :: (x ++ w)).take q.length = (c :: x).take q.length := fun w => List.take_append_of_le_length (l₁ := c :: x) (by simp only [List.length_cons]; omega)
      simp only [List.cons_append] at h ⊢
      rw [qr.eq_def] at h ⊢
      simp only [ht] at h ⊢
      split at h
      · rename_i h1
        rw [if_pos h1]
        exact h
      · rename_i h1
        rw [if_neg h1]
        split at h
        · rename_i h2
          rw [if_pos h2]
          split at h
          · rename_i h3
            rw [if_pos h3]
            cases x with
            | nil =>
              cases u with
              | nil => simp at h
              | cons d r2 =>
                simp only [List.nil_append, Prod.mk.injEq, List.length_nil] at h hn
                omega
            | cons d x =>
              simp only [List.cons_append, List.length_cons, Prod.mk.injEq] at h hn hm ⊢
              have := ih x u v (qr q raw uni (x ++ u)).1 (qr q raw uni (x ++ u)).2.1 (by omega) (Prod.ext rfl (Prod.ext rfl h.2.2)) (by omega)
              rw [this]
              exact ⟨h.1, h.2.1, rfl⟩
          · rename_i h3
            rw [if_neg h3]
            cases he : esc uni (x ++ u) with
            | none => rw [he] at h; simp at h
            | some y =>
              obtain ⟨b2, k⟩ := y
              rw [he] at h
              simp only [Prod.mk.injEq] at h
              have hk := esc_ge he
              rw [esc_tail v he (by omega)]
              simp only [Prod.mk.injEq]
              have hle : k - 1 ≤ x.length := by omega
              rw [drop_app u hle] at h
              rw [drop_app v hle]
              have := ih (x.drop (k - 1)) u v (qr q raw uni (x.drop (k - 1) ++ u)).1 (qr q raw uni (x.drop (k - 1) ++ u)).2.1 (by rw [List.length_drop]; omega) (Prod.ext rfl (Prod.ext rfl h.2.2)) (by rw [List.length_drop]; omega)
              rw [this]
              exact ⟨h.1, h.2.1, rfl⟩
        · rename_i h2
          rw [if_neg h2]
          split at h
          · simp at h
          · rename_i h3
            rw [if_neg h3]
            simp only [Prod.mk.injEq] at h ⊢
            have := ih x u v (qr q raw uni (x ++ u)).1 (qr q raw uni (x ++ u)).2.1 (by omega) (Prod.ext rfl (Prod.ext rfl h.2.2)) (by omega)
            rw [this]
            exact ⟨h.1, h.2.1, rfl⟩

theorem qtok_tail (q : List UInt8) (raw uni ident : Bool) (kind : ByteArray) (x u v : List UInt8) (t : Tk) (hq : 0 < q.length) (h : qtok q raw uni ident kind (x ++ u) = .ok t) (hn : t.n = x.length) : qtok q raw uni ident kind (x ++ v) = .ok t ∧ 2 * q.length ≤ x.length := by
  unfold qtok at h
  split at h
  · rename_i bs n hqr
    split at h
    · cases h
    · rename_i hb
      injection h with h
      have hN : q.length + n + q.length = x.length := by rw [← hn, ← h]
      have hle : q.length ≤ x.length := by omega
      rw [drop_app u hle] at hqr
      have := qr_tail q raw uni hq _ (x.drop q.length) u v bs n (Nat.le_refl _) hqr (by rw [List.length_drop]; omega)
      refine ⟨?_, by omega⟩
      unfold qtok
      rw [drop_app v hle, this]
      simp only
      rw [if_neg hb, h]
  · cases h
  · cases h
  · cases h

theorem delim_tail (c d : UInt8) (x u v : List UInt8) (hc : nn c = 34 ∨ nn c = 39) (hf : Fol u v) (h : 2 * (delim (c :: d :: x ++ u)).length ≤ (c :: d :: x).length) : delim (c :: d :: x ++ v) = delim (c :: d :: x ++ u) := by
  cases x with
  | cons e x => rfl
  | nil =>
    rcases hf with rfl | ⟨r, rfl⟩ | ⟨e, r, r', rfl, rfl⟩
    · cases u with
      | nil => rfl
      | cons e r =>
        simp only [List.cons_append, List.nil_append, delim, List.length_cons, List.length_nil] at h ⊢
        split at h
        · simp at h
        · rename_i h1; rw [if_neg h1]
    · have e10 : (nn c == nn 10) = false := by
        rw [beq_eq_false_iff_ne, show nn 10 = 10 from rfl]; omega
      have e1 : delim (c :: d :: [] ++ 10 :: r) = [c] := by
        simp only [List.cons_append, List.nil_append, delim, e10, Bool.and_false, Bool.false_eq_true, if_false]
      rw [e1]
      cases u with
      | nil => rfl
      | cons e r =>
        simp only [List.cons_append, List.nil_append, delim, List.length_cons, List.length_nil] at h ⊢
        split at h
        · simp at h
        · rename_i h1; rw [if_neg h1]
    · rfl

theorem pre_tail : ∀ (f : Nat) (b r : Bool) (x u v : List UInt8) (i : Nat) (y : Bool × Bool), pre f b r (x ++ u) = some (i, y) → i < x.length → pre f b r (x ++ v) = some (i, y) ∧ ∃ c z, x.drop i = c :: z ∧ (nn c = 34 ∨ nn c = 39) := by
  intro f
  induction f with
  | zero => intro b r x u v i y h; cases h
  | succ f ih =>
    intro b r x u v i y h hi
    cases x with
    | nil => simp at hi
    | cons c x =>
      simp only [List.cons_append, List.length_cons] at h hi ⊢
      unfold pre at h ⊢
      split at h
      · rename_i h1
        rw [if_pos h1]
        cases hp : pre f true r (x ++ u) with
        | none => rw [hp] at h; cases h
        | some z =>
          rw [hp] at h
          simp only [Option.map_some, Option.some.injEq, Prod.mk.injEq] at h
          obtain ⟨h2, h3⟩ := ih true r x u v z.1 z.2 hp (by omega)
          rw [h2]
          refine ⟨by simp [← h.1, ← h.2], ?_⟩
          rw [← h.1]
          exact h3
      · rename_i h1
        rw [if_neg h1]
        split at h
        · rename_i h2
          rw [if_pos h2]
          cases hp : pre f b true (x ++ u) with
          | none => rw [hp] at h; cases h
          | some z =>
            rw [hp] at h
            simp only [Option.map_some, Option.some.injEq, Prod.mk.injEq] at h
            obtain ⟨h2, h3⟩ := ih b true x u v z.1 z.2 hp (by omega)
            rw [h2]
            refine ⟨by simp [← h.1, ← h.2], ?_⟩
            rw [← h.1]
            exact h3
        · rename_i h2
          rw [if_neg h2]
          split at h
          · rename_i h3
            rw [if_pos h3]
            simp only [Option.some.injEq, Prod.mk.injEq] at h
            refine ⟨by simp [← h.1, ← h.2], c, x, by rw [← h.1]; rfl, ?_⟩
            simpa using h3
          · cases h

theorem pre_noneP : ∀ (f : Nat) (b r : Bool) (x u v : List UInt8), (∀ c ∈ x, idp (nn c) = true) → idpHead u = false → Fol u v → pre f b r (x ++ u) = none → pre f b r (x ++ v) = none := by
  intro f
  induction f with
  | zero => intro b r x u v _ _ _ _; rfl
  | succ f ih =>
    intro b r x u v hx hu hf h
    cases x with
    | nil =>
      simp only [List.nil_append] at h ⊢
      rcases hf with rfl | ⟨z, rfl⟩ | ⟨c, z, z', rfl, rfl⟩
      · rfl
      · unfold pre
        rw [show nn 10 = 10 from rfl]
        simp
      · have hc := idp_letters (c := nn c) hu
        unfold pre at h ⊢
        simp only [Bool.or_self, Bool.and_false, Bool.false_eq_true, if_false, beq_eq_false_iff_ne.2 hc.2.2.1, beq_eq_false_iff_ne.2 hc.2.2.2.1, beq_eq_false_iff_ne.2 hc.2.2.2.2.1, beq_eq_false_iff_ne.2 hc.2.2.2.2.2] at h ⊢
        split at h
        · cases h
        · rename_i h1; rw [if_neg h1]
    | cons c x =>
      simp only [List.cons_append] at h ⊢
      have hx2 : ∀ d ∈ x, idp (nn d) = true := fun d hd => hx d (List.mem_cons_of_mem _ hd)
      unfold pre at h ⊢
      split at h
      · rename_i h1
        rw [if_pos h1]
        cases hp : pre f true r (x ++ u) with
        | none => rw [ih true r x u v hx2 hu hf hp]; rfl
        | some z => rw [hp] at h; cases h
      · rename_i h1
        rw [if_neg h1]
        split at h
        · rename_i h2
          rw [if_pos h2]
          cases hp : pre f b true (x ++ u) with
          | none => rw [ih b true x u v hx2 hu hf hp]; rfl
          | some z => rw [hp] at h; cases h
        · rename_i h2
          rw [if_neg h2]
          split at h
          · cases h
          · rename_i h3; rw [if_neg h3]

theorem two_line (c : Int) : two c 10 = false := by
  unfold two
  simp

theorem twoHead_tail (c : UInt8) {u v : List UInt8} (hf : Fol u v) (h : twoHead c u = none) : twoHead c v = none := by
  rcases hf with rfl | ⟨r, rfl⟩ | ⟨d, r, r', rfl, rfl⟩
  · rfl
  · simp [twoHead, show nn 10 = 10 from rfl, two_line]
  · exact h

theorem word_tail (x u v : List UInt8) (t : Tk) (hf : Fol u v) (h : word (x ++ u) = .ok t) (hn : t.n = x.length) : word (x ++ v) = .ok t ∧ (∀ c ∈ x, idp (nn c) = true) ∧ idpHead u = false := by
  have hl : idLen (x ++ u) = x.length := by
    unfold word at h
    simp only at h
    split at h
    · injection h with h; rw [← hn, ← h]; rfl
    · injection h with h; rw [← hn, ← h]
  obtain ⟨h1, h2⟩ := idLen_full x u hl
  have hl2 := idLen_app x v h1 (hf.idp h2)
  refine ⟨?_, h1, h2⟩
  unfold word at h ⊢
  simp only [hl, hl2, List.take_left] at h ⊢
  exact h

theorem tok_tail (last : ByteArray) (x u v : List UInt8) (t : Tk) (hf : Fol u v) (hx : x ≠ []) (h : tok last (x ++ u) = .ok t) (hn : t.n = x.length) : tok last (x ++ v) = .ok t := by
  cases x with
  | nil => exact absurd rfl hx
  | cons c x =>
    simp only [List.cons_append] at h ⊢
    rw [tok] at h ⊢
    split at h
    · rename_i h1
      rw [if_pos h1]
      exact h
    · rename_i h1
      rw [if_neg h1]
      split at h
      · rename_i h2
        rw [if_pos h2]
        split at h
        · rename_i h3
          obtain ⟨h4, h5⟩ := num_tail c x u v t hf h hn
          have h6 : (!dotted last && dgHead (x ++ v)) = true := by
            cases x with
            | nil => simp only [List.nil_append, dgHead_idp h5, Bool.and_false] at h3; cases h3
            | cons d x => exact h3
          rw [if_pos h6]
          exact h4
        · rename_i h3
          injection h with h
          have hxl : x = [] := by
            rw [← h] at hn
            simp only [List.length_cons] at hn
            exact List.eq_nil_of_length_eq_zero (by omega)
          subst hxl
          simp only [List.nil_append] at h3 ⊢
          have h6 : ¬ (!dotted last && dgHead v) = true := by
            intro h4
            simp only [Bool.and_eq_true] at h4
            apply h3
            rw [h4.1]
            cases hd : dgHead u with
            | true => rfl
            | false => rw [hf.dg hd] at h4; simp at h4
          rw [if_neg h6, h]
      · rename_i h2
        rw [if_neg h2]
        split at h
        · rename_i h3
          rw [if_pos h3]
          split at h
          · rename_i d hd
            injection h with h
            have hxl : x.length = 1 := by
              rw [← h] at hn
              simp only [plain, List.length_cons] at hn
              omega
            cases x with
            | nil => simp at hxl
            | cons e x =>
              have : twoHead c (e :: x ++ v) = some d := hd
              rw [this]
              simp only [h]
          · rename_i hd
            split at h
            · rename_i h4
              injection h with h
              simp only [Bool.and_eq_true] at h4
              have hl : idLen (x ++ u) = x.length := by
                rw [← h] at hn
                simp only [List.length_cons] at hn
                omega
              obtain ⟨h5, h6⟩ := idLen_full x u hl
              have hl2 := idLen_app x v h5 (hf.idp h6)
              cases x with
              | nil =>
                exfalso
                have h7 := h4.2
                cases u with
                | nil => cases h7
                | cons e r =>
                  have h8 : idp (nn e) = false := h6
                  have h9 : ids (nn e) = true := h7
                  unfold idp at h8
                  rw [h9] at h8
                  simp at h8
              | cons e x =>
                have h7 : twoHead c (e :: x ++ v) = none := hd
                have h8 : (nn c == 64 && idsHead (e :: x ++ v)) = true := by simp only [Bool.and_eq_true]; exact h4
                rw [h7]
                simp only [h8, if_true, hl2, List.take_left]
                rw [← h, hl, List.take_left]
            · rename_i h4
              injection h with h
              have hxl : x = [] := by
                rw [← h] at hn
                simp only [plain, List.length_cons] at hn
                exact List.eq_nil_of_length_eq_zero (by omega)
              subst hxl
              simp only [List.nil_append] at h4 hd ⊢
              rw [twoHead_tail c hf hd]
              have h6 : ¬ (nn c == 64 && idsHead v) = true := by
                intro h5
                simp only [Bool.and_eq_true] at h5
                apply h4
                rw [h5.1]
                cases hi : idsHead u with
                | true => rfl
                | false => rw [hf.ids hi] at h5; simp at h5
              simp only
              rw [if_neg h6, h]
        · rename_i h3
          rw [if_neg h3]
          split at h
          · rename_i h4
            rw [if_pos h4]
            exact (qtok_tail [96] false true true kIdent (c :: x) u v t (by simp) h hn).1
          · rename_i h4
            rw [if_neg h4]
            split at h
            · rename_i h5
              rw [if_pos h5]
              exact (num_tail c x u v t hf h hn).1
            · rename_i h5
              rw [if_neg h5]
              split at h
              · rename_i i b w hp
                obtain ⟨y, hy, rfl⟩ := Out.shift_ok h
                obtain ⟨d0, v0, hv0⟩ := pre_drop _ _ _ _ _ _ hp
                have hg := qtok_fine _ _ _ _ _ _ _ (by rw [hv0]; exact delim_pos) (by split; exact kBytes_ne; exact kString_ne) hy
                simp only [List.length_cons] at hn
                have hi : i < (c :: x).length := by have := hg.1; simp only [List.length_cons]; omega
                obtain ⟨hp2, d, z, hd, hq⟩ := pre_tail 3 false false (c :: x) u v i (b, w) hp hi
                have hp3 : pre 3 false false (c :: (x ++ v)) = some (i, b, w) := hp2
                rw [hp3]
                simp only
                have e1 : ∀ r, (c :: (x ++ r)).drop i = d :: z ++ r := fun r => by
                  rw [← hd, ← drop_app (x := c :: x) r (Nat.le_of_lt hi)]
                  rfl
                rw [e1] at hy ⊢
                have hzl : (d :: z).length = (c :: x).length - i := by rw [← hd, List.length_drop]
                simp only [List.length_cons] at hzl
                have hyn : y.n = (d :: z).length := by simp only [List.length_cons]; omega
                obtain ⟨h6, h7⟩ := qtok_tail _ _ _ _ _ (d :: z) u v y (by exact delim_pos) hy hyn
                cases z with
                | nil =>
                  have := delim_pos (c := d) (l := u)
                  simp only [List.cons_append, List.nil_append, List.length_cons, List.length_nil] at h7
                  omega
                | cons e z =>
                  have h8 := delim_tail d e z u v hq hf h7
                  rw [h8, h6]
                  rfl
              · rename_i hp
                split at h
                · rename_i h6
                  obtain ⟨h7, h8, h9⟩ := word_tail (c :: x) u v t hf h hn
                  have hp2 : pre 3 false false (c :: (x ++ v)) = none := pre_noneP 3 false false (c :: x) u v h8 h9 hf hp
                  rw [hp2]
                  simp only
                  rw [if_pos h6]
                  exact h7
                · cases h

end Go.Proofs.YtngofbhlhcalpaaGreatDoor.lexer

namespace Go.Proofs.YtngofbhlhcalpaaGreatDoor.lexer
open Go.RowKit Go.Proofs.YtngofbhlhcalpaaGreatDoor.gen
open Go.Lib (headSpace spaceSeqs)

theorem pref_line2 : ∀ (t l r : List UInt8), (10 : UInt8) ∉ t → t.isPrefixOf (l ++ 10 :: r) = t.isPrefixOf l := by
  intro t
  induction t with
  | nil => intro l r _; simp
  | cons a t ih =>
    intro l r h
    cases l with
    | nil =>
      have : ¬ a = 10 := fun e => h (by rw [e]; exact List.mem_cons_self ..)
      simp [List.isPrefixOf, this]
    | cons c l =>
      simp only [List.cons_append, List.isPrefixOf]
      rw [ih l r (fun hm => h (List.mem_cons_of_mem _ hm))]
theorem pref_line (t l r : List UInt8) (h : (10 : UInt8) ∉ t.tail) (hl : l ≠ []) : t.isPrefixOf (l ++ 10 :: r) = t.isPrefixOf l := by
  cases l with
  | nil => exact absurd rfl hl
  | cons c l =>
    cases t with
    | nil => simp
    | cons a t =>
      simp only [List.cons_append, List.isPrefixOf]
      rw [pref_line2 t l r h]

theorem find_congr {α : Type} {p q : α → Bool} : ∀ (l : List α), (∀ x ∈ l, p x = q x) → l.find? p = l.find? q := by
  intro l
  induction l with
  | nil => intro _; rfl
  | cons a l ih =>
    intro h
    simp only [List.find?_cons]
    rw [h a (List.mem_cons_self ..), ih (fun x hx => h x (List.mem_cons_of_mem _ hx))]

theorem seqs_line : ∀ t ∈ spaceSeqs, (10 : UInt8) ∉ t.tail := by decide +kernel
theorem seqs_pos : ∀ t ∈ spaceSeqs, 0 < t.length := by decide +kernel

theorem headSpace_line (l r : List UInt8) (hl : l ≠ []) : headSpace (l ++ 10 :: r) = headSpace l := by
  unfold headSpace
  rw [find_congr spaceSeqs (fun t ht => pref_line t l r (seqs_line t ht) hl)]
theorem headSpace_ten (r : List UInt8) : headSpace (10 :: r) = 1 := by
  simp [headSpace, spaceSeqs, List.isPrefixOf]

theorem isPrefixOf_app : ∀ (t x u : List UInt8), t.isPrefixOf x = true → t.isPrefixOf (x ++ u) = true := by
  intro t
  induction t with
  | nil => intro x u _; simp
  | cons a t ih =>
    intro x u h
    cases x with
    | nil => simp [List.isPrefixOf] at h
    | cons c x =>
      simp only [List.isPrefixOf, Bool.and_eq_true, List.cons_append] at h ⊢
      exact ⟨h.1, ih x u h.2⟩

theorem headSpace_none {l : List UInt8} (h : headSpace l = 0) : spaceSeqs.find? (·.isPrefixOf l) = none := by
  unfold headSpace at h
  cases hf : spaceSeqs.find? (·.isPrefixOf l) with
  | none => rfl
  | some t =>
    rw [hf] at h
    have h2 := seqs_pos t (List.mem_of_find?_eq_some hf)
    have h3 : t.length = 0 := h
    omega
theorem headSpace_pre (x u : List UInt8) (h : headSpace (x ++ u) = 0) : headSpace x = 0 := by
  have h1 := headSpace_none h
  rw [List.find?_eq_none] at h1
  unfold headSpace
  have : spaceSeqs.find? (·.isPrefixOf x) = none := by
    rw [List.find?_eq_none]
    intro t ht hp
    exact h1 t ht (isPrefixOf_app t x u hp)
  rw [this]
  rfl

theorem spc_zeroP {l : List UInt8} (h : headSpace l = 0) : spc l = 0 := by rw [spc.eq_def, dif_pos h]
theorem spc_succ {l : List UInt8} (h : ¬ headSpace l = 0) : spc l = headSpace l + spc (l.drop (headSpace l)) := by rw [spc.eq_def, dif_neg h]
theorem spc_nil : spc [] = 0 := spc_zeroP (by have := headSpace_le []; simp at this; exact this)
theorem spc_ten (r : List UInt8) : spc (10 :: r) = 1 + spc r := by
  rw [spc_succ (by rw [headSpace_ten]; simp), headSpace_ten]; rfl

theorem spc_end : ∀ (m : Nat) (l : List UInt8), l.length ≤ m → headSpace (l.drop (spc l)) = 0 := by
  intro m
  induction m with
  | zero =>
    intro l h
    obtain rfl : l = [] := List.eq_nil_of_length_eq_zero (by omega)
    have := headSpace_le []
    rw [List.drop_nil]
    simp at this
    exact this
  | succ m ih =>
    intro l h
    by_cases h0 : headSpace l = 0
    · rw [spc_zeroP h0]; exact h0
    · rw [spc_succ h0, ← List.drop_drop]
      have := headSpace_le l
      exact ih _ (by rw [List.length_drop]; omega)

theorem spc_line : ∀ (m : Nat) (l r : List UInt8), l.length ≤ m → (spc l < l.length → spc (l ++ 10 :: r) = spc l) ∧ (spc l = l.length → spc (l ++ 10 :: r) = l.length + 1 + spc r) := by
  intro m
  induction m with
  | zero =>
    intro l r h
    obtain rfl : l = [] := List.eq_nil_of_length_eq_zero (by omega)
    refine ⟨fun h => by simp at h, fun _ => ?_⟩
    rw [List.nil_append, spc_ten, List.length_nil]
  | succ m ih =>
    intro l r h
    cases l with
    | nil => exact ih [] r (Nat.zero_le _)
    | cons c l =>
      have hl := headSpace_line (c :: l) r (by simp)
      by_cases h0 : headSpace (c :: l) = 0
      · rw [spc_zeroP h0]
        exact ⟨fun _ => spc_zeroP (by rw [hl]; exact h0), fun e => (by simp at e)⟩
      · have hle := headSpace_le (c :: l)
        obtain ⟨h1, h2⟩ := ih ((c :: l).drop (headSpace (c :: l))) r (by rw [List.length_drop]; omega)
        have e2 : spc (c :: l ++ 10 :: r) = headSpace (c :: l) + spc ((c :: l).drop (headSpace (c :: l)) ++ 10 :: r) := by
          rw [spc_succ (l := c :: l ++ 10 :: r) (by rw [hl]; exact h0), hl, drop_app _ hle]
        rw [spc_succ h0, e2]
        rw [List.length_drop] at h1 h2
        exact ⟨fun h => by rw [h1 (by omega)], fun h => by rw [h2 (by omega)]; omega⟩

theorem headIs_line (k : Int) (l r : List UInt8) (h : k ≠ 10) : headIs k (l ++ 10 :: r) = headIs k l := by
  cases l with
  | nil =>
    show (nn 10 == k) = false
    rw [beq_eq_false_iff_ne, show nn 10 = 10 from rfl]
    exact fun e => h e.symm
  | cons c l => rfl

theorem lineLen_line (l r : List UInt8) : lineLen (l ++ 10 :: r) = lineLen l ∨ (lineLen l = l.length ∧ lineLen (l ++ 10 :: r) = l.length + 1) := by
  induction l with
  | nil => right; exact ⟨rfl, by simp [lineLen, show nn 10 = 10 from rfl]⟩
  | cons c l ih =>
    simp only [List.cons_append, lineLen, List.length_cons]
    split
    · left; rfl
    · rcases ih with h | ⟨h1, h2⟩
      · left; rw [h]
      · right; exact ⟨by rw [h1], by rw [h2]⟩

theorem blockEnd_line (l r : List UInt8) : ∀ n, blockEnd l = some n → blockEnd (l ++ 10 :: r) = some n := by
  induction l with
  | nil => intro n h; cases h
  | cons c l ih =>
    intro n h
    simp only [List.cons_append, blockEnd] at h ⊢
    rw [headIs_line 47 l r (by decide)]
    split at h
    · rename_i h1; rw [if_pos h1]; exact h
    · rename_i h1
      rw [if_neg h1]
      cases hb : blockEnd l with
      | none => rw [hb] at h; cases h
      | some m => rw [hb] at h; rw [ih m hb]; exact h

theorem com_line_no (l r : List UInt8) (hl : l ≠ []) (h : com l = .no) : com (l ++ 10 :: r) = .no := by
  cases l with
  | nil => exact absurd rfl hl
  | cons c l =>
    simp only [List.cons_append, com, headIs_line 45 l r (by decide), headIs_line 42 l r (by decide)] at h ⊢
    split at h
    · cases h
    · rename_i h1
      rw [if_neg h1]
      split at h
      · split at h <;> cases h
      · rename_i h2; rw [if_neg h2]

theorem com_line_ok (l r : List UInt8) (n : Nat) (h : com l = .ok n) : com (l ++ 10 :: r) = .ok n ∨ (n = l.length ∧ com (l ++ 10 :: r) = .ok (n + 1)) := by
  cases l with
  | nil => cases h
  | cons c l =>
    simp only [List.cons_append, com, headIs_line 45 l r (by decide), headIs_line 42 l r (by decide)] at h ⊢
    split at h
    · rename_i h1
      rw [if_pos h1]
      cases h
      rcases lineLen_line (c :: l) r with h2 | ⟨h2, h3⟩
      · left; rw [← List.cons_append, h2]
      · right; rw [← List.cons_append, h3, h2]; exact ⟨rfl, rfl⟩
    · rename_i h1
      rw [if_neg h1]
      split at h
      · rename_i h2
        rw [if_pos h2]
        cases hb : blockEnd (c :: l) with
        | none => rw [hb] at h; cases h
        | some m =>
          rw [hb] at h
          left
          rw [← List.cons_append, blockEnd_line _ r m hb]
          exact h
      · cases h

theorem com_pre (x u : List UInt8) (h : com (x ++ u) = .no) : com x = .no := by
  have hh : ∀ (k : Int) (x : List UInt8), headIs k x = true → headIs k (x ++ u) = true := by
    intro k x h
    cases x with
    | nil => cases h
    | cons c x => exact h
  cases x with
  | nil => rfl
  | cons c x =>
    simp only [List.cons_append, com] at h ⊢
    split at h
    · cases h
    · rename_i h1
      split at h
      · split at h <;> cases h
      · rename_i h2
        have e1 : ¬ (nn c == 35 || nn c == 45 && headIs 45 x) = true := by
          intro e
          apply h1
          simp only [Bool.or_eq_true, Bool.and_eq_true] at e ⊢
          rcases e with e | e
          · exact .inl e
          · exact .inr ⟨e.1, hh _ _ e.2⟩
        have e2 : ¬ (nn c == 47 && headIs 42 x) = true := by
          intro e
          apply h2
          simp only [Bool.and_eq_true] at e ⊢
          exact ⟨e.1, hh _ _ e.2⟩
        rw [if_neg e1, if_neg e2]

theorem gap_nil : gap [] = ([], 0, false) := by
  have := gap_no [] (by rw [List.drop_nil]; rfl)
  rw [this, spc_nil]

/-- Behind what stands ahead of a token no blank and no comment begins. -/
theorem gap_end : ∀ (m : Nat) (l : List UInt8), l.length ≤ m → (gap l).2.2 = false → headSpace (l.drop (gapLen (gap l))) = 0 ∧ com (l.drop (gapLen (gap l))) = .no := by
  intro m
  induction m with
  | zero =>
    intro l h _
    obtain rfl : l = [] := List.eq_nil_of_length_eq_zero (by omega)
    have := headSpace_le []
    rw [List.drop_nil]
    simp at this
    exact ⟨this, rfl⟩
  | succ m ih =>
    intro l h ho
    cases hc : com (l.drop (spc l)) with
    | no =>
      rw [gap_no l hc]
      simp only [gapLen, comsLen, Nat.zero_add]
      exact ⟨spc_end _ l (Nat.le_refl _), hc⟩
    | opened => rw [gap_opened l hc] at ho; cases ho
    | ok n =>
      have h2 := com_le _ _ hc
      rw [List.length_drop] at h2
      have hg := gap_ok l n hc
      have hi := ih (l.drop (spc l + n)) (by rw [List.length_drop]; omega) (by rw [hg] at ho; exact ho)
      rw [hg]
      simp only [gapLen, comsLen]
      rw [show spc l + n + comsLen (gap (l.drop (spc l + n))).1 + (gap (l.drop (spc l + n))).2.1 = (spc l + n) + gapLen (gap (l.drop (spc l + n))) from by simp only [gapLen]; omega, ← List.drop_drop]
      exact hi

theorem gap_zero {l : List UInt8} (h1 : headSpace l = 0) (h2 : com l = .no) : gap l = ([], 0, false) := by
  have h3 := spc_zeroP h1
  have := gap_no l (by rw [h3]; exact h2)
  rw [this, h3]

/-- With a line's end and another text behind. -/
theorem gap_line : ∀ (m : Nat) (l r : List UInt8), l.length ≤ m → (gap l).2.2 = false →
    (gapLen (gap l) < l.length → gap (l ++ 10 :: r) = gap l) ∧
    (gapLen (gap l) = l.length → gapLen (gap (l ++ 10 :: r)) = l.length + 1 + gapLen (gap r) ∧ (gap (l ++ 10 :: r)).2.2 = (gap r).2.2) := by
  intro m
  induction m with
  | zero =>
    intro l r h ho
    obtain rfl : l = [] := List.eq_nil_of_length_eq_zero (by omega)
    refine ⟨fun h => by simp at h, fun _ => ?_⟩
    rw [List.nil_append]
    have hs := spc_ten r
    have hd : (10 :: r).drop (spc (10 :: r)) = r.drop (spc r) := by rw [hs, Nat.add_comm 1]; rfl
    cases hc : com (r.drop (spc r)) with
    | no =>
      rw [gap_no (10 :: r) (by rw [hd]; exact hc), gap_no r hc]
      simp only [gapLen, comsLen, hs, List.length_nil]
      exact ⟨by omega, trivial⟩
    | opened =>
      rw [gap_opened (10 :: r) (by rw [hd]; exact hc), gap_opened r hc]
      simp only [gapLen, comsLen, hs, List.length_nil]
      exact ⟨by omega, trivial⟩
    | ok n =>
      rw [gap_ok (10 :: r) n (by rw [hd]; exact hc), gap_ok r n hc]
      have e : (10 :: r).drop (1 + spc r + n) = r.drop (spc r + n) := by rw [show 1 + spc r + n = (spc r + n) + 1 from by omega]; rfl
      simp only [gapLen, comsLen, hs, e, List.length_nil]
      exact ⟨by omega, trivial⟩
  | succ m ih =>
    intro l r h ho
    have hsl := spc_line _ l r (Nat.le_refl _)
    have hsle := spc_le l
    cases hc : com (l.drop (spc l)) with
    | no =>
      have hg := gap_no l hc
      have hgl : gapLen (gap l) = spc l := by rw [hg]; simp [gapLen, comsLen]
      rw [hgl]
      refine ⟨fun hlt => ?_, fun he => ?_⟩
      · have hs := hsl.1 hlt
        have hne : l.drop (spc l) ≠ [] := by
          intro e
          have := congrArg List.length e
          rw [List.length_drop] at this
          simp at this
          omega
        rw [gap_no (l ++ 10 :: r) (by rw [hs, drop_app _ hsle]; exact com_line_no _ r hne hc), hs, hg]
      · have hs := hsl.2 he
        have hd : (l ++ 10 :: r).drop (l.length + 1 + spc r) = r.drop (spc r) := by
          rw [show l.length + 1 + spc r = l.length + (1 + spc r) from by omega, ← List.drop_drop, List.drop_left, Nat.add_comm 1]; rfl
        cases hc2 : com (r.drop (spc r)) with
        | no =>
          rw [gap_no (l ++ 10 :: r) (by rw [hs, hd]; exact hc2), gap_no r hc2]
          simp only [gapLen, comsLen, hs]
          exact ⟨by omega, trivial⟩
        | opened =>
          rw [gap_opened (l ++ 10 :: r) (by rw [hs, hd]; exact hc2), gap_opened r hc2]
          simp only [gapLen, comsLen, hs]
          exact ⟨by omega, trivial⟩
        | ok n =>
          rw [gap_ok (l ++ 10 :: r) n (by rw [hs, hd]; exact hc2), gap_ok r n hc2]
          have e : (l ++ 10 :: r).drop (l.length + 1 + spc r + n) = r.drop (spc r + n) := by
            rw [← List.drop_drop, hd, List.drop_drop]
          simp only [gapLen, comsLen, hs, e]
          exact ⟨by omega, trivial⟩
    | opened => rw [gap_opened l hc] at ho; cases ho
    | ok n =>
      have h2 := com_le _ _ hc
      rw [List.length_drop] at h2
      have hlt : spc l < l.length := by omega
      have hs := hsl.1 hlt
      have hg := gap_ok l n hc
      have hgl : gapLen (gap l) = spc l + n + gapLen (gap (l.drop (spc l + n))) := by rw [hg]; simp only [gapLen, comsLen]; omega
      have hle : spc l + n ≤ l.length := by omega
      rcases com_line_ok (l.drop (spc l)) r n hc with h3 | ⟨h3, h4⟩
      · have hg2 := gap_ok (l ++ 10 :: r) n (by rw [hs, drop_app _ hsle]; exact h3)
        rw [hs, drop_app _ hle] at hg2
        obtain ⟨i1, i2⟩ := ih (l.drop (spc l + n)) r (by rw [List.length_drop]; omega) (by rw [hg] at ho; exact ho)
        rw [List.length_drop] at i1 i2
        refine ⟨fun hx => ?_, fun hx => ?_⟩
        · rw [hg2, i1 (by omega), ← hg]
        · obtain ⟨j1, j2⟩ := i2 (by omega)
          rw [hg2]
          simp only [gapLen, comsLen] at j1 ⊢
          exact ⟨by omega, j2⟩
      · rw [List.length_drop] at h3
        have hnil : l.drop (spc l + n) = [] := List.drop_eq_nil_of_le (by omega)
        have hgn : gapLen (gap (l.drop (spc l + n))) = 0 := by rw [hnil, gap_nil]; rfl
        refine ⟨fun hx => by omega, fun hx => ?_⟩
        have hg2 := gap_ok (l ++ 10 :: r) (n + 1) (by rw [hs, drop_app _ hsle]; exact h4)
        have e : (l ++ 10 :: r).drop (spc l + (n + 1)) = r := by
          rw [show spc l + (n + 1) = l.length + 1 from by omega, ← List.drop_drop, List.drop_left]; rfl
        rw [hs, e] at hg2
        rw [hg2]
        simp only [gapLen, comsLen]
        exact ⟨by omega, trivial⟩

end Go.Proofs.YtngofbhlhcalpaaGreatDoor.lexer

namespace Go.Proofs.YtngofbhlhcalpaaGreatDoor.lexer
open Go.RowKit Go.Proofs.YtngofbhlhcalpaaGreatDoor.gen
open Go.Proofs.YtngofbhlhcalpaaGreatDoor.upper (up isKw upb)

theorem hexN_lenP {n u : Nat} {l : List UInt8} (h : hexN n l = some u) : n ≤ l.length := by
  unfold hexN at h
  split at h
  · rename_i h1; exact h1.1
  · cases h
theorem octN_lenP {n u : Nat} {l : List UInt8} (h : octN n l = some u) : n ≤ l.length := by
  unfold octN at h
  split at h
  · rename_i h1; exact h1.1
  · cases h

theorem esc_len {uni : Bool} {l bs : List UInt8} {k : Nat} (h : esc uni l = some (bs, k)) : k ≤ l.length + 1 := by
  cases l with
  | nil => cases h
  | cons c r =>
    rw [List.length_cons]
    rw [esc] at h
    split at h
    · cases h; omega
    · split at h
      · cases hh : hexN 2 r with
        | none => rw [hh] at h; cases h
        | some z => have := hexN_lenP hh; rw [hh] at h; cases h; omega
      · split at h
        · split at h
          · cases hh : hexN 4 r with
            | none => rw [hh] at h; cases h
            | some z =>
              have := hexN_lenP hh
              rw [hh] at h
              simp only [Option.bind_some] at h
              split at h
              · cases h; omega
              · cases h
          · cases h
        · split at h
          · split at h
            · cases hh : hexN 8 r with
              | none => rw [hh] at h; cases h
              | some z =>
                have := hexN_lenP hh
                rw [hh] at h
                simp only [Option.bind_some] at h
                split at h
                · cases h; omega
                · cases h
            · cases h
          · split at h
            · cases hh : octN 2 r with
              | none => rw [hh] at h; cases h
              | some z => have := octN_lenP hh; rw [hh] at h; cases h; omega
            · cases h

theorem qr_len (q : List UInt8) (raw uni : Bool) : ∀ (m : Nat) (l : List UInt8), l.length ≤ m → (qr q raw uni l).2.1 ≤ l.length ∧ ((qr q raw uni l).2.2 = .closed → (qr q raw uni l).2.1 + q.length ≤ l.length) := by
  intro m
  induction m with
  | zero =>
    intro l h
    obtain rfl : l = [] := List.eq_nil_of_length_eq_zero (by omega)
    rw [qr.eq_def]
    exact ⟨Nat.zero_le _, fun h => by cases h⟩
  | succ m ih =>
    intro l h
    cases l with
    | nil => exact ih [] (Nat.zero_le _)
    | cons c r =>
      simp only [List.length_cons] at h ⊢
      rw [qr.eq_def]
      simp only
      split
      · rename_i h1
        refine ⟨Nat.zero_le _, fun _ => ?_⟩
        have h2 := congrArg List.length (eq_of_beq h1)
        rw [List.length_take, List.length_cons] at h2
        show 0 + q.length ≤ _
        omega
      · split
        · split
          · cases r with
            | nil => exact ⟨Nat.zero_le _, fun h => by cases h⟩
            | cons d r2 =>
              simp only [List.length_cons] at h ⊢
              obtain ⟨h1, h2⟩ := ih r2 (by omega)
              exact ⟨by omega, fun h => by have := h2 h; omega⟩
          · cases he : esc uni r with
            | none => exact ⟨Nat.zero_le _, fun h => by cases h⟩
            | some y =>
              obtain ⟨bs, k⟩ := y
              have h1 := esc_ge he
              have h2 := esc_len he
              simp only
              obtain ⟨h3, h4⟩ := ih (r.drop (k - 1)) (by rw [List.length_drop]; omega)
              rw [List.length_drop] at h3 h4
              exact ⟨by omega, fun h => by have := h4 h; omega⟩
        · split
          · exact ⟨Nat.zero_le _, fun h => by cases h⟩
          · obtain ⟨h1, h2⟩ := ih r (by omega)
            exact ⟨by simp only; omega, fun h => by have := h2 h; simp only; omega⟩

def Out.In (l : List UInt8) : Out → Prop
  | .ok t => t.n ≤ l.length
  | .bad o => o ≤ l.length

theorem Out.In.shift {l : List UInt8} {o : Out} {k : Nat} (h : o.In (l.drop k)) (hk : k ≤ l.length) : (o.shift k).In l := by
  cases o with
  | ok t =>
    have h : t.n ≤ (l.drop k).length := h
    rw [List.length_drop] at h
    show t.n + k ≤ l.length
    omega
  | bad o =>
    have h : o ≤ (l.drop k).length := h
    rw [List.length_drop] at h
    show o + k ≤ l.length
    omega

theorem num_in (l : List UInt8) : (num l).In l := by
  have hN : numN l ≤ l.length := by
    unfold numN
    split
    · rename_i h
      have h1 := numU_le _ (l.drop 2) true true false (Nat.le_refl _)
      rw [List.length_drop] at h1
      have h2 : 2 ≤ l.length := by
        cases l with
        | nil => cases h
        | cons c r => cases r with
          | nil => cases h
          | cons d r => simp only [List.length_cons]; omega
      omega
    · exact numU_le _ l _ _ _ (Nat.le_refl _)
  rw [num_eq]
  split
  · exact hN
  · exact hN

theorem qtok_in (q : List UInt8) (raw uni ident : Bool) (kind : ByteArray) (l : List UInt8) (hq : q.length ≤ l.length) : (qtok q raw uni ident kind l).In l := by
  have h := qr_len q raw uni _ (l.drop q.length) (Nat.le_refl _)
  rw [List.length_drop] at h
  unfold qtok
  split
  · rename_i bs n he
    rw [he] at h
    have := h.2 rfl
    split
    · exact Nat.zero_le _
    · show q.length + n + q.length ≤ l.length
      simp only at this
      omega
  · exact Nat.zero_le _
  · exact Nat.zero_le _
  · rename_i n he
    rw [he] at h
    show q.length + n ≤ l.length
    have := h.1
    simp only at this
    omega

theorem delim_lenP (l : List UInt8) : (delim l).length ≤ l.length := by
  unfold delim
  split
  · split <;> simp
  · simp
  · exact Nat.le_refl _

theorem tok_in (last : ByteArray) (l : List UInt8) : (tok last l).In l := by
  cases l with
  | nil => exact Nat.zero_le _
  | cons c r =>
    rw [tok]
    split
    · show 1 ≤ (c :: r).length; simp
    · split
      · split
        · exact num_in _
        · show 1 ≤ (c :: r).length; simp
      · split
        · split
          · rename_i d hd
            show 2 ≤ (c :: r).length
            cases r with
            | nil => cases hd
            | cons e r => simp
          · split
            · show 1 + idLen r ≤ (c :: r).length
              have := idLen_le r
              simp only [List.length_cons]; omega
            · show 1 ≤ (c :: r).length; simp
        · split
          · exact qtok_in _ _ _ _ _ _ (by simp)
          · split
            · exact num_in _
            · split
              · rename_i i b w hp
                obtain ⟨d, v, hv⟩ := pre_drop _ _ _ _ _ _ hp
                have hi : i ≤ (c :: r).length := by
                  rcases Nat.le_total i (c :: r).length with h | h
                  · exact h
                  · rw [List.drop_eq_nil_of_le h] at hv; cases hv
                exact Out.In.shift (qtok_in _ _ _ _ _ _ (delim_lenP _)) hi
              · split
                · have := idLen_le (c :: r)
                  unfold word
                  simp only
                  split
                  · exact this
                  · exact this
                · exact Nat.zero_le _

theorem ftok_in (last : ByteArray) (l : List UInt8) : (ftok last l).In l := by
  unfold ftok
  split
  · exact idLen_le l
  · exact tok_in last l

theorem tokD_in (last : ByteArray) (dot : Bool) (l : List UInt8) : (tokD last dot l).In l := by
  unfold tokD
  split
  · exact ftok_in last l
  · exact tok_in last l
theorem tokD_good (last : ByteArray) (dot : Bool) (c : UInt8) (r : List UInt8) (t : Tk) (h : tokD last dot (c :: r) = .ok t) : Good t := by
  unfold tokD at h
  split at h
  · exact ftok_good last c r t h
  · exact tok_good last c r t h
theorem tokD_nil (last : ByteArray) (dot : Bool) : tokD last dot [] = .ok (plain kEof 0) := by cases dot <;> rfl

/-- The token of a text: what stands ahead of it, its length; the end has none. -/
theorem next_ok {last : ByteArray} {dot : Bool} {l : List UInt8} {t : Nt} (h : next last dot l = .ok t) :
    (gap l).2.2 = false ∧ t.coms = (gap l).1 ∧ t.space = (gap l).2.1 ∧ t.pre = gapLen (gap l) ∧ tokD last dot (l.drop t.pre) = .ok t.tk ∧ t.len ≤ l.length ∧
    ((t.tk = plain kEof 0 ∧ t.pre = l.length) ∨ (Good t.tk ∧ t.pre < l.length)) := by
  unfold next at h
  simp only at h
  cases hg : (gap l).2.2 with
  | true => rw [hg] at h; cases h
  | false =>
    rw [hg] at h
    simp only [Bool.false_eq_true, if_false] at h
    cases ht : tokD last dot (l.drop (gapLen (gap l))) with
    | bad o => rw [ht] at h; cases h
    | ok tk =>
      rw [ht] at h
      injection h with h
      subst h
      have hle := gap_le l
      have hin := tokD_in last dot (l.drop (gapLen (gap l)))
      rw [ht] at hin
      have hin : tk.n ≤ (l.drop (gapLen (gap l))).length := hin
      rw [List.length_drop] at hin
      refine ⟨rfl, rfl, rfl, rfl, ht, ?_, ?_⟩
      · show gapLen (gap l) + tk.n ≤ l.length; omega
      · rcases Nat.lt_or_ge (gapLen (gap l)) l.length with h1 | h1
        · right
          obtain ⟨c, r, hr⟩ : ∃ c r, l.drop (gapLen (gap l)) = c :: r := by
            cases hd : l.drop (gapLen (gap l)) with
            | nil =>
              have := congrArg List.length hd
              rw [List.length_drop] at this
              simp at this
              omega
            | cons c r => exact ⟨c, r, rfl⟩
          rw [hr] at ht
          exact ⟨tokD_good _ _ _ _ _ ht, h1⟩
        · left
          have hd : l.drop (gapLen (gap l)) = [] := List.drop_eq_nil_of_le h1
          rw [hd, tokD_nil] at ht
          injection ht with ht
          exact ⟨ht.symm, Nat.le_antisymm hle h1⟩

theorem next_bad {last : ByteArray} {dot : Bool} {l : List UInt8} {o : Nat} (h : next last dot l = .bad o) : o ≤ l.length ∧ 0 < l.length := by
  have h0 : 0 < l.length := by
    cases l with
    | cons c r => simp
    | nil =>
      unfold next at h
      rw [gap_nil] at h
      simp [tokD_nil] at h
  refine ⟨?_, h0⟩
  have hle := gap_le l
  unfold next at h
  simp only at h
  split at h
  · cases h; exact hle
  · split at h
    · cases h
    · rename_i o2 ho
      injection h with h
      have hin := tokD_in last dot (l.drop (gapLen (gap l)))
      rw [ho] at hin
      have hin : o2 ≤ (l.drop (gapLen (gap l))).length := hin
      rw [List.length_drop] at hin
      omega

/-- One step of the list of tokens. -/
theorem lexL_bad {last : ByteArray} {dot : Bool} {l : List UInt8} {o : Nat} (p : Nat) (h : next last dot l = .bad o) : lexL last dot l p = ([], some (p + o)) := by
  rw [lexL.eq_def]
  split
  · rename_i o2 h2; rw [h] at h2; cases h2; rfl
  · rename_i t h2; rw [h] at h2; cases h2
theorem lexL_eof {last : ByteArray} {dot : Bool} {l : List UInt8} {t : Nt} (p : Nat) (h : next last dot l = .ok t) (ht : t.tk = plain kEof 0) : lexL last dot l p = ([(p, t)], none) := by
  rw [lexL.eq_def]
  split
  · rename_i o2 h2; rw [h] at h2; cases h2
  · rename_i t2 h2
    rw [h] at h2
    cases h2
    rw [dif_pos (.inl (by rw [ht]; rfl))]
theorem kind_ne_list {k : ByteArray} (h : k ≠ kEof) : k.data.toList ≠ kEof.data.toList := by
  intro e
  apply h
  cases k with
  | mk a =>
    simp only [kEof, ByteArray.mk.injEq]
    have := congrArg List.toArray e
    simpa [kEof] using this
theorem lexL_more {last : ByteArray} {dot : Bool} {l : List UInt8} {t : Nt} (p : Nat) (h : next last dot l = .ok t) (ht : Good t.tk) :
    lexL last dot l p = ((p, t) :: (lexL t.tk.kind (dotOf dot t.tk) (l.drop t.len) (p + t.len)).1, (lexL t.tk.kind (dotOf dot t.tk) (l.drop t.len) (p + t.len)).2) := by
  have hn := (next_ok h).2.2.2.2.2.1
  rw [lexL.eq_def]
  split
  · rename_i o2 h2; rw [h] at h2; cases h2
  · rename_i t2 h2
    rw [h] at h2
    cases h2
    rw [dif_neg]
    rintro (e | e | e)
    · exact kind_ne_list ht.2 e
    · have := ht.1
      unfold Nt.len at e
      omega
    · omega

end Go.Proofs.YtngofbhlhcalpaaGreatDoor.lexer

namespace Go.Proofs.YtngofbhlhcalpaaGreatDoor.lexer
open Go.RowKit Go.Proofs.YtngofbhlhcalpaaGreatDoor.gen
open Go.Proofs.YtngofbhlhcalpaaGreatDoor.upper (up isKw upb)

theorem ne46 {c : UInt8} (h : c ≠ 46) : (nn c == 46) = false := by
  rw [beq_eq_false_iff_ne]
  intro e
  apply h
  have : c.toNat = (46 : UInt8).toNat := by
    unfold nn at e
    show c.toNat = 46
    omega
  exact UInt8.toNat_inj.mp this

theorem tok_last (last last' : ByteArray) (c : UInt8) (r : List UInt8) (h : c ≠ 46) : tok last (c :: r) = tok last' (c :: r) := by
  rw [tok, tok]
  simp only [ne46 h, Bool.false_eq_true, if_false]

theorem num_nodot {l : List UInt8} {t : Tk} (h : num l = .ok t) : t.dot = none := by
  obtain ⟨_, rfl⟩ := num_ok h
  rfl
theorem qtok_nodot {q : List UInt8} {raw uni ident : Bool} {kind : ByteArray} {l : List UInt8} {t : Tk} (h : qtok q raw uni ident kind l = .ok t) : t.dot = none := by
  unfold qtok at h
  split at h
  · split at h
    · cases h
    · injection h with h; rw [← h]
  · cases h
  · cases h
  · cases h
theorem word_nodot {l : List UInt8} {t : Tk} (h : word l = .ok t) : t.dot = none := by
  unfold word at h
  simp only at h
  split at h
  · injection h with h; rw [← h]; rfl
  · injection h with h; rw [← h]

theorem tok_nodot (last : ByteArray) (c : UInt8) (r : List UInt8) (t : Tk) (hc : c ≠ 46) (h : tok last (c :: r) = .ok t) : t.dot = none := by
  rw [tok] at h
  simp only [ne46 hc, Bool.false_eq_true, if_false] at h
  split at h
  · injection h with h; rw [← h]; rfl
  · split at h
    · split at h
      · injection h with h; rw [← h]; rfl
      · split at h
        · injection h with h; rw [← h]
        · injection h with h; rw [← h]; rfl
    · split at h
      · exact qtok_nodot h
      · split at h
        · exact num_nodot h
        · split at h
          · obtain ⟨u, hu, rfl⟩ := Out.shift_ok h
            exact (qtok_nodot hu : u.dot = none)
          · split at h
            · exact word_nodot h
            · cases h

/-- How a text is read to its end. -/
inductive Lexd : ByteArray → Bool → List UInt8 → Nat → List (Nat × Nt) → Prop
  | eof {last : ByteArray} {dot : Bool} {l : List UInt8} {p : Nat} {t : Nt} : next last dot l = .ok t → t.tk = plain kEof 0 → Lexd last dot l p [(p, t)]
  | more {last : ByteArray} {dot : Bool} {l : List UInt8} {p : Nat} {t : Nt} {ts : List (Nat × Nt)} : next last dot l = .ok t → Good t.tk → Lexd t.tk.kind (dotOf dot t.tk) (l.drop t.len) (p + t.len) ts → Lexd last dot l p ((p, t) :: ts)

theorem lexd_of : ∀ (m : Nat) (last : ByteArray) (dot : Bool) (l : List UInt8) (p : Nat) (ts : List (Nat × Nt)), l.length ≤ m → lexL last dot l p = (ts, none) → Lexd last dot l p ts := by
  intro m
  induction m with
  | zero =>
    intro last dot l p ts hm h
    obtain rfl : l = [] := List.eq_nil_of_length_eq_zero (by omega)
    cases hn : next last dot [] with
    | bad o => rw [lexL_bad p hn] at h; cases h
    | ok t =>
      rcases (next_ok hn).2.2.2.2.2.2 with h1 | h1
      · rw [lexL_eof p hn h1.1] at h
        cases h
        exact .eof hn h1.1
      · have := h1.2; simp at this
  | succ m ih =>
    intro last dot l p ts hm h
    cases hn : next last dot l with
    | bad o => rw [lexL_bad p hn] at h; cases h
    | ok t =>
      have hk := next_ok hn
      rcases hk.2.2.2.2.2.2 with h1 | h1
      · rw [lexL_eof p hn h1.1] at h
        cases h
        exact .eof hn h1.1
      · rw [lexL_more p hn h1.1] at h
        injection h with h2 h3
        rw [← h2]
        refine .more hn h1.1 (ih _ _ _ _ _ ?_ (Prod.ext rfl h3))
        have := h1.1.1
        rw [List.length_drop]
        unfold Nt.len
        omega

/-- The bytes of a token. -/
def rawOf (S : List UInt8) (e : Nat × Nt) : List UInt8 := (S.drop (e.1 + e.2.pre)).take e.2.tk.n

theorem drop_split {l : List UInt8} {n k : Nat} (h : n + k ≤ l.length) : (l.drop n).take k ++ l.drop (n + k) = l.drop n ∧ ((l.drop n).take k).length = k := by
  refine ⟨?_, ?_⟩
  · rw [← List.drop_drop, List.take_append_drop]
  · rw [List.length_take, List.length_drop]; omega

theorem alone_one {last : ByteArray} {l : List UInt8} {t : Nt} (h : next last false l = .ok t) (hg : Good t.tk) (h46 : ∀ r, (l.drop t.pre).take t.tk.n ≠ 46 :: r) :
    lexL kNone false ((l.drop t.pre).take t.tk.n) 0 = ([(0, ⟨[], 0, t.tk⟩), (t.tk.n, ⟨[], 0, plain kEof 0⟩)], none) ∧ t.tk.dot = none := by
  obtain ⟨h1, h2, h3, h4, h5, h6, h7⟩ := next_ok h
  have hsp := drop_split (l := l) (n := t.pre) (k := t.tk.n) h6
  have hge := gap_end _ l (Nat.le_refl _) h1
  rw [← h4] at hge
  generalize hx : (l.drop t.pre).take t.tk.n = x at *
  obtain ⟨e1, e2⟩ := hsp
  rw [← e1] at hge h5
  have hpos := hg.1
  cases x with
  | nil => simp at e2; omega
  | cons c x =>
    have hc : c ≠ 46 := fun e => h46 x (by rw [e])
    have h5 : tok last (c :: x ++ l.drop (t.pre + t.tk.n)) = .ok t.tk := h5
    have hdot := tok_nodot last c _ t.tk hc h5
    have ht := tok_tail last (c :: x) _ [] t.tk (Fol.stop _) (by simp) h5 e2.symm
    rw [List.append_nil, tok_last last kNone c x hc] at ht
    have hgap := gap_zero (headSpace_pre _ _ hge.1) (com_pre _ _ hge.2)
    refine ⟨?_, hdot⟩
    have hn1 : next kNone false (c :: x) = .ok ⟨[], 0, t.tk⟩ := by
      unfold next
      simp only [hgap, gapLen, comsLen, Nat.zero_add, Bool.false_eq_true, if_false, List.drop_zero, tokD, ht]
    have hl : (⟨[], 0, t.tk⟩ : Nt).len = t.tk.n := by simp [Nt.len, Nt.pre, comsLen]
    rw [lexL_more 0 hn1 hg, hl]
    have hd : (c :: x).drop t.tk.n = [] := List.drop_eq_nil_of_le (by omega)
    have hn2 : ∀ la d, next la d [] = .ok ⟨[], 0, plain kEof 0⟩ := fun la d => by
      unfold next
      simp only [gap_nil, gapLen, comsLen, Nat.zero_add, Bool.false_eq_true, if_false, List.drop_nil, tokD_nil]
    rw [hd, lexL_eof _ (hn2 _ _) rfl, Nat.zero_add]

theorem alone_all {S : List UInt8} : ∀ {last : ByteArray} {dot : Bool} {l : List UInt8} {p : Nat} {ts : List (Nat × Nt)}, Lexd last dot l p ts → dot = false → l = S.drop p → (∀ e ∈ ts, ∀ r, rawOf S e ≠ 46 :: r) →
    ∀ e ∈ ts, Good e.2.tk → lexL kNone false (rawOf S e) 0 = ([(0, ⟨[], 0, e.2.tk⟩), (e.2.tk.n, ⟨[], 0, plain kEof 0⟩)], none) := by
  intro last dot l p ts h
  induction h with
  | eof hn ht =>
    intro _ _ _ e he hg
    rw [List.mem_singleton] at he
    subst he
    have := hg.1
    rw [show (_ : Nat × Nt).2.tk = plain kEof 0 from ht] at this
    simp [plain] at this
  | @more last dot l p t ts hn hg hrest ih =>
    intro hd hl h46 e he hge
    subst hd hl
    have key := alone_one hn hg (by
      intro r
      have := h46 _ (List.mem_cons_self ..) r
      unfold rawOf at this
      rw [List.drop_drop]
      exact this)
    rcases List.mem_cons.1 he with rfl | he
    · have := key.1
      rw [List.drop_drop] at this
      exact this
    · exact ih (by simp [dotOf, key.2]) (by rw [List.drop_drop]) (fun e he => h46 e (List.mem_cons_of_mem _ he)) e he hge

/-- A token and where it begins. -/
def view (e : Nat × Nt) : Nat × Tk := (e.1 + e.2.pre, e.2.tk)
def shv (k : Nat) (e : Nat × Tk) : Nat × Tk := (e.1 + k, e.2)

theorem lexL_shift : ∀ (m : Nat) (last : ByteArray) (dot : Bool) (l : List UInt8) (p k : Nat), l.length ≤ m →
    (lexL last dot l (p + k)).1.map view = ((lexL last dot l p).1.map view).map (shv k) ∧ (lexL last dot l (p + k)).2 = (lexL last dot l p).2.map (· + k) := by
  have hv : ∀ (p k : Nat) (t : Nt), view (p + k, t) = shv k (view (p, t)) := fun p k t => by simp only [view, shv, Prod.mk.injEq, and_true]; omega
  intro m
  induction m with
  | zero =>
    intro last dot l p k hm
    obtain rfl : l = [] := List.eq_nil_of_length_eq_zero (by omega)
    cases hn : next last dot [] with
    | bad o => have := (next_bad hn).2; simp at this
    | ok t =>
      rcases (next_ok hn).2.2.2.2.2.2 with h1 | h1
      · rw [lexL_eof _ hn h1.1, lexL_eof _ hn h1.1]
        simp [hv]
      · have := h1.2; simp at this
  | succ m ih =>
    intro last dot l p k hm
    cases hn : next last dot l with
    | bad o =>
      rw [lexL_bad _ hn, lexL_bad _ hn]
      simp only [List.map_nil, Option.map_some, Option.some.injEq, true_and]
      omega
    | ok t =>
      rcases (next_ok hn).2.2.2.2.2.2 with h1 | h1
      · rw [lexL_eof _ hn h1.1, lexL_eof _ hn h1.1]
        simp [hv]
      · rw [lexL_more _ hn h1.1, lexL_more _ hn h1.1]
        have hpos := h1.1.1
        obtain ⟨i1, i2⟩ := ih t.tk.kind (dotOf dot t.tk) (l.drop t.len) (p + t.len) k (by rw [List.length_drop]; unfold Nt.len; omega)
        rw [show p + t.len + k = p + k + t.len from by omega] at i1 i2
        simp only [List.map_cons, i1, i2, hv]
        exact ⟨trivial, trivial⟩

theorem tokD_last (last last' : ByteArray) (l : List UInt8) (h : (46 : UInt8) ∉ l) : tokD last false l = tokD last' false l := by
  cases l with
  | nil => rfl
  | cons c r => exact tok_last last last' c r (fun e => h (by rw [e]; exact List.mem_cons_self ..))

/-- Two texts with a line's end between them: the first one is read to its end; the second one has no points. -/
theorem join_all {S r : List UInt8} (hr : (46 : UInt8) ∉ r) : ∀ {last : ByteArray} {dot : Bool} {l : List UInt8} {p : Nat} {ts : List (Nat × Nt)}, Lexd last dot l p ts → dot = false → l = S.drop p → (∀ e ∈ ts, ∀ r, rawOf S e ≠ 46 :: r) →
    (lexL last false (l ++ 10 :: r) p).1.map view = (ts.dropLast).map view ++ ((lexL kNone false r 0).1.map view).map (shv (p + l.length + 1)) ∧ (lexL last false (l ++ 10 :: r) p).2 = (lexL kNone false r 0).2.map (· + (p + l.length + 1)) := by
  intro last dot l p ts h
  induction h with
  | @eof last dot l p t hn ht =>
    intro hd _ _
    subst hd
    obtain ⟨h1, h2, h3, h4, h5, h6, h7⟩ := next_ok hn
    have hend : gapLen (gap l) = l.length := by
      rcases h7 with h7 | h7
      · rw [← h4]; exact h7.2
      · have := h7.1.1; rw [ht] at this; simp [plain] at this
    obtain ⟨g1, g2⟩ := (gap_line _ l r (Nat.le_refl _) h1).2 hend
    have hd : ∀ n, (l ++ 10 :: r).drop (l.length + 1 + n) = r.drop n := fun n => by
      rw [show l.length + 1 + n = l.length + (n + 1) from by omega, ← List.drop_drop, List.drop_left]; rfl
    have hmem : (46 : UInt8) ∉ r.drop (gapLen (gap r)) := fun hm => hr (List.mem_of_mem_drop hm)
    simp only [List.dropLast_singleton, List.map_nil, List.nil_append]
    cases ho : (gap r).2.2 with
    | true =>
      have n1 : next last false (l ++ 10 :: r) = .bad (l.length + 1 + gapLen (gap r)) := by
        unfold next; simp only [g2, ho, if_true, g1]
      have n2 : next kNone false r = .bad (gapLen (gap r)) := by
        unfold next; simp only [ho, if_true]
      rw [lexL_bad _ n1, lexL_bad _ n2]
      simp only [List.map_nil, Option.map_some, Option.some.injEq, true_and]
      omega
    | false =>
      cases hk : tokD kNone false (r.drop (gapLen (gap r))) with
      | bad o =>
        have n1 : next last false (l ++ 10 :: r) = .bad (l.length + 1 + gapLen (gap r) + o) := by
          unfold next; simp only [g2, ho, Bool.false_eq_true, if_false, g1, hd, tokD_last last kNone _ hmem, hk]
        have n2 : next kNone false r = .bad (gapLen (gap r) + o) := by
          unfold next; simp only [ho, Bool.false_eq_true, if_false, hk]
        rw [lexL_bad _ n1, lexL_bad _ n2]
        simp only [List.map_nil, Option.map_some, Option.some.injEq, true_and]
        omega
      | ok tk =>
        have n1 : next last false (l ++ 10 :: r) = .ok ⟨(gap (l ++ 10 :: r)).1, (gap (l ++ 10 :: r)).2.1, tk⟩ := by
          unfold next; simp only [g2, ho, Bool.false_eq_true, if_false, g1, hd, tokD_last last kNone _ hmem, hk]
        have n2 : next kNone false r = .ok ⟨(gap r).1, (gap r).2.1, tk⟩ := by
          unfold next; simp only [ho, Bool.false_eq_true, if_false, hk]
        have p1 : (⟨(gap (l ++ 10 :: r)).1, (gap (l ++ 10 :: r)).2.1, tk⟩ : Nt).pre = l.length + 1 + (⟨(gap r).1, (gap r).2.1, tk⟩ : Nt).pre := g1
        have p2 : (⟨(gap (l ++ 10 :: r)).1, (gap (l ++ 10 :: r)).2.1, tk⟩ : Nt).len = l.length + 1 + (⟨(gap r).1, (gap r).2.1, tk⟩ : Nt).len := by
          show Nt.pre _ + tk.n = l.length + 1 + (Nt.pre _ + tk.n)
          rw [p1]; omega
        have hv : view (p, (⟨(gap (l ++ 10 :: r)).1, (gap (l ++ 10 :: r)).2.1, tk⟩ : Nt)) = shv (p + l.length + 1) (view (0, (⟨(gap r).1, (gap r).2.1, tk⟩ : Nt))) := by
          simp only [view, shv, p1, Prod.mk.injEq, and_true]; omega
        rcases (next_ok n2).2.2.2.2.2.2 with h8 | h8
        · rw [lexL_eof _ n1 h8.1, lexL_eof _ n2 h8.1]
          simp only [List.map_cons, List.map_nil, hv, Option.map_none]
          exact ⟨trivial, trivial⟩
        · rw [lexL_more _ n1 h8.1, lexL_more _ n2 h8.1, p2, hd]
          have hs := lexL_shift _ tk.kind (dotOf false tk) (r.drop (⟨(gap r).1, (gap r).2.1, tk⟩ : Nt).len) (0 + (⟨(gap r).1, (gap r).2.1, tk⟩ : Nt).len) (p + l.length + 1) (Nat.le_refl _)
          rw [show 0 + (⟨(gap r).1, (gap r).2.1, tk⟩ : Nt).len + (p + l.length + 1) = p + (l.length + 1 + (⟨(gap r).1, (gap r).2.1, tk⟩ : Nt).len) from by omega] at hs
          simp only [List.map_cons, hv, hs.1, hs.2]
          exact ⟨trivial, trivial⟩
  | @more last dot l p t ts hn hg hrest ih =>
    intro hd hl h46
    subst hd hl
    obtain ⟨h1, h2, h3, h4, h5, h6, h7⟩ := next_ok hn
    have hlt : gapLen (gap (S.drop p)) < (S.drop p).length := by
      rcases h7 with h7 | h7
      · have := hg.1; rw [h7.1] at this; simp [plain] at this
      · rw [← h4]; exact h7.2
    have hgl := (gap_line _ (S.drop p) r (Nat.le_refl _) h1).1 hlt
    have hdot := (alone_one hn hg (by
      intro r
      have := h46 _ (List.mem_cons_self ..) r
      unfold rawOf at this
      rw [List.drop_drop]
      exact this)).2
    have hsp := drop_split (l := S.drop p) (n := t.pre) (k := t.tk.n) h6
    have hple : t.pre ≤ (S.drop p).length := by omega
    have n1 : next last false (S.drop p ++ 10 :: r) = .ok t := by
      have h5 : tok last ((S.drop p).drop t.pre) = .ok t.tk := h5
      have e : (S.drop p ++ 10 :: r).drop t.pre = ((S.drop p).drop t.pre).take t.tk.n ++ ((S.drop p).drop (t.pre + t.tk.n) ++ 10 :: r) := by
        rw [drop_app _ hple, ← List.append_assoc, hsp.1]
      have ht : tok last ((S.drop p ++ 10 :: r).drop t.pre) = .ok t.tk := by
        rw [e]
        rw [← hsp.1] at h5
        refine tok_tail last _ _ _ t.tk (Fol.line _ _) ?_ h5 hsp.2.symm
        intro e2
        have := hsp.2
        rw [e2] at this
        have := hg.1
        simp at *
        omega
      unfold next
      simp only [hgl, h1, Bool.false_eq_true, if_false, ← h4, tokD, ht, ← h2, ← h3]
    have hle : t.len ≤ (S.drop p).length := h6
    rw [lexL_more p n1 hg, drop_app _ hle]
    obtain ⟨i1, i2⟩ := ih (by simp [dotOf, hdot]) (by rw [List.drop_drop]) (fun e he => h46 e (List.mem_cons_of_mem _ he))
    have hdf : dotOf false t.tk = false := by simp [dotOf, hdot]
    have hne : ts ≠ [] := by
      intro e
      rw [e] at hrest
      cases hrest
    rw [hdf]
    have hlen : p + t.len + ((S.drop p).drop t.len).length + 1 = p + (S.drop p).length + 1 := by rw [List.length_drop]; omega
    rw [hlen] at i1 i2
    refine ⟨?_, i2⟩
    rw [List.dropLast_cons_of_ne_nil hne]
    simp only [List.map_cons, i1, List.cons_append]

end Go.Proofs.YtngofbhlhcalpaaGreatDoor.lexer

namespace Go.Proofs.YtngofbhlhcalpaaGreatDoor.lexer
open Go.RowKit Go.Proofs.YtngofbhlhcalpaaGreatDoor.gen

/-- What is told of a token and its place in the list of n tokens; o: the fault. -/
def Elem (lo hi : Nat) (o : Option Nat) (n i : Nat) (e : Nat × Nt) : Prop :=
  lo ≤ e.1 ∧ e.1 + e.2.len ≤ hi ∧ ((Good e.2.tk ∧ (o = none → i + 1 < n)) ∨ (e.2.tk = plain kEof 0 ∧ o = none ∧ i + 1 = n))

theorem lexL_elem : ∀ (m : Nat) (last : ByteArray) (dot : Bool) (l : List UInt8) (p : Nat), l.length ≤ m →
    (∀ i e, (lexL last dot l p).1[i]? = some e → Elem p (p + l.length) (lexL last dot l p).2 (lexL last dot l p).1.length i e) ∧
    (∀ o, (lexL last dot l p).2 = some o → o ≤ p + l.length ∧ 0 < l.length) ∧ ((lexL last dot l p).2 = none → 0 < (lexL last dot l p).1.length) ∧ (lexL last dot l p).1.length ≤ l.length + 1 := by
  intro m
  induction m with
  | zero =>
    intro last dot l p hm
    obtain rfl : l = [] := List.eq_nil_of_length_eq_zero (by omega)
    cases hn : next last dot [] with
    | bad o => have := (next_bad hn).2; simp at this
    | ok t =>
      have hk := next_ok hn
      rcases hk.2.2.2.2.2.2 with h1 | h1
      · rw [lexL_eof _ hn h1.1]
        refine ⟨fun i e he => ?_, fun o ho => (by cases ho), fun _ => (by simp), by simp⟩
        cases i with
        | zero =>
          simp only [List.getElem?_cons_zero, Option.some.injEq] at he
          subst he
          exact ⟨Nat.le_refl _, by show p + t.len ≤ _; have := hk.2.2.2.2.2.1; omega, .inr ⟨h1.1, rfl, rfl⟩⟩
        | succ i => simp at he
      · have := h1.2; simp at this
  | succ m ih =>
    intro last dot l p hm
    cases hn : next last dot l with
    | bad o =>
      have hb := next_bad hn
      rw [lexL_bad _ hn]
      exact ⟨fun i e he => (by simp at he), fun o ho => (by injection ho with ho; exact ⟨by omega, hb.2⟩), fun h => (by cases h), by simp⟩
    | ok t =>
      have hk := next_ok hn
      have hlen := hk.2.2.2.2.2.1
      rcases hk.2.2.2.2.2.2 with h1 | h1
      · rw [lexL_eof _ hn h1.1]
        refine ⟨fun i e he => ?_, fun o ho => (by cases ho), fun _ => (by simp), by simp⟩
        cases i with
        | zero =>
          simp only [List.getElem?_cons_zero, Option.some.injEq] at he
          subst he
          exact ⟨Nat.le_refl _, by show p + t.len ≤ _; omega, .inr ⟨h1.1, rfl, rfl⟩⟩
        | succ i => simp at he
      · rw [lexL_more _ hn h1.1]
        have hpos : 0 < t.len := by have := h1.1.1; unfold Nt.len; omega
        obtain ⟨i1, i2, i3, i4⟩ := ih t.tk.kind (dotOf dot t.tk) (l.drop t.len) (p + t.len) (by rw [List.length_drop]; omega)
        rw [List.length_drop] at i1 i2 i4
        refine ⟨fun i e he => ?_, fun o ho => ?_, fun _ => (by simp), by simp only [List.length_cons]; omega⟩
        · cases i with
          | zero =>
            simp only [List.getElem?_cons_zero, Option.some.injEq] at he
            subst he
            refine ⟨Nat.le_refl _, by show p + t.len ≤ _; omega, .inl ⟨h1.1, fun h => ?_⟩⟩
            have := i3 h
            simp only [List.length_cons]; omega
          | succ i =>
            simp only [List.getElem?_cons_succ] at he
            obtain ⟨j1, j2, j3⟩ := i1 i e he
            refine ⟨by omega, by omega, ?_⟩
            rcases j3 with ⟨k1, k2⟩ | ⟨k1, k2, k3⟩
            · exact .inl ⟨k1, fun h => by have := k2 h; simp only [List.length_cons]; omega⟩
            · exact .inr ⟨k1, k2, by simp only [List.length_cons]; omega⟩
        · have := i2 o ho
          exact ⟨by omega, by omega⟩

end Go.Proofs.YtngofbhlhcalpaaGreatDoor.lexer

namespace Go.Proofs.YtngofbhlhcalpaaGreatDoor.lexer
open Go.RowKit Go.Proofs.YtngofbhlhcalpaaGreatDoor.gen

theorem kBad_ne : kBad ≠ kEof := by simp [kBad, kEof]

/-- The lexer behind a token. -/
def LX.put (x : LX) (t : Tk) : LX := { x with kind := t.kind, text := t.text, base := t.base, p := x.p + t.n, dot := t.dot.getD x.dot }

/-- Whether a fault cannot be cut by the text's end. -/
def NB (s : ByteArray) : Prop := ∀ k : Nat, byt s k = 92 → k + 9 < s.size

/-- What a reader of a token gives: the token; or, if it may not panic, something bad that is longer than nothing; or a fault. -/
def TokRes (np : Bool) (lb fb : Nat) (fp s : ByteArray) (x : LX) (o : Out) (w : World) (e : Ending) (w' : World) : Prop :=
  (∃ t, o = .ok t ∧ Goes (.tuple #[]) lb fb fp s (x.put t) w e w') ∨
  (∃ off, o = .bad off ∧ np = false ∧ FaultL lb fb (x.p + off) w e w') ∨
  (∃ off y, o = .bad off ∧ np = true ∧ x.p < y.p ∧ y.kind ≠ kEof ∧ y.com = x.com ∧ Goes (.tuple #[]) lb fb fp s y w e w')

/-- The lexer ahead of a token. -/
structure Fresh (x : LX) : Prop where
  kind : x.kind = kNone
  text : x.text = kNone
  base : x.base = 0

end Go.Proofs.YtngofbhlhcalpaaGreatDoor.lexer

namespace Go.Proofs.YtngofbhlhcalpaaGreatDoor.lexer
open Go.RowKit Go.Proofs.YtngofbhlhcalpaaGreatDoor.gen

/-- A token of the plain lexer as plain data. -/
def itOf (s : ByteArray) (e : Nat × Nt) : IT := ⟨e.2.tk.kind, s.extract (e.1 + comsLen e.2.coms) (e.1 + e.2.pre), s.extract (e.1 + e.2.pre) (e.1 + e.2.len), e.2.tk.text, e.2.tk.base, ((e.1 + e.2.pre : Nat) : Int), ((e.1 + e.2.len : Nat) : Int), comsAt s e.1 e.2.coms⟩

def lexAll (s : ByteArray) : List (Nat × Nt) × Option Nat := lexL kNone false s.data.toList 0

/-- The tables that the lexer reads, and the type of errors. -/
structure Ctx (w : World) : Prop where
  tabs : Tabs w
  ety : EType w
theorem Ctx.below {w w' : World} (h : Ctx w) (hb : Below w.heap.size w w') : Ctx w' := ⟨h.tabs.below hb, h.ety.below hb⟩

/-- What Lex gives. -/
def LexRes (s : ByteArray) (w : World) (e : Ending) (w' : World) : Prop :=
  ∃ v, e = .returned (.tuple #[v, .int .i64 (((lexAll s).2.getD 0 : Nat) : Int), .bool (lexAll s).2.isNone]) ∧ ToksAt w' w.heap.size v ((lexAll s).1.map (itOf s)) ∧ Below w.heap.size w w'

end Go.Proofs.YtngofbhlhcalpaaGreatDoor.lexer

namespace Go.Proofs.YtngofbhlhcalpaaGreatDoor.lexer
open Go.RowKit Go.Proofs.YtngofbhlhcalpaaGreatDoor.gen
open Go.Proofs.YtngofbhlhcalpaaGreatDoor.quo (lit encs enc enc_cases enc_head encs_len hexd nn_hexd)
open Go.Lib (headSpace spaceSeqs)

theorem nnq (c : UInt8) : quo.nn c = nn c := rfl

theorem dv_hexd (h : Nat) (hh : h < 16) : dv (hexd h) = h ∧ hx (nn (hexd h)) = true := by
  have key : ∀ n : Fin 16, dv (hexd n.val) = n.val ∧ hx (nn (hexd n.val)) = true := by decide +kernel
  exact key ⟨h, hh⟩

theorem hexN_two (h l : Nat) (r : List UInt8) (hh : h < 16) (hl : l < 16) : hexN 2 (hexd h :: hexd l :: r) = some (16 * h + l) := by
  obtain ⟨a1, a2⟩ := dv_hexd h hh
  obtain ⟨b1, b2⟩ := dv_hexd l hl
  have h1 : 2 ≤ (hexd h :: hexd l :: r).length := by simp
  simp only [hexN, h1, List.take_succ_cons, List.take_zero, List.all_cons, List.all_nil, a2, b2, Bool.and_self, and_self, if_true, dvs, List.foldl_cons, List.foldl_nil, a1, b1, Nat.zero_mul, Nat.zero_add]
  rw [Nat.mul_comm]

theorem qr_encs (q : UInt8) (hq : q = 34 ∨ q = 39) (l : List UInt8) : qr [q] false false (encs q l ++ [q]) = (l, (encs q l).length, .closed) := by
  induction l with
  | nil =>
    simp only [encs, List.nil_append]
    rw [qr.eq_def]
    simp
  | cons c l ih =>
    simp only [encs, List.append_assoc]
    have hq92 : ¬ (92 : UInt8) = q := by rcases hq with rfl | rfl <;> decide
    rcases enc_cases q c hq with ⟨h, h1, h2, h3, h4⟩ | ⟨h, h1⟩ | ⟨a, b, h, h1, h2, h3⟩
    · rw [h]
      simp only [List.cons_append, List.nil_append, List.length_cons]
      rw [qr.eq_def]
      have e1 : ¬ nn c = 92 := fun e => h2 (UInt8.toNat_inj.mp (by unfold nn at e; show c.toNat = 92; omega))
      have e2 : ¬ nn c = 10 := by unfold nn; omega
      simp [h1, e1, e2, ih]
    · rw [h]
      have hs : simple c = some c := by rcases h1 with rfl | rfl | rfl <;> decide
      simp only [List.cons_append, List.nil_append]
      rw [qr.eq_def]
      have he : esc false (c :: (encs q l ++ [q])) = some ([c], 2) := by rw [esc, hs]
      simp [hq92, he, ih, show nn 92 = 92 from rfl]
    · rw [h]
      simp only [List.cons_append, List.nil_append]
      rw [qr.eq_def]
      have hs : simple 120 = none := by decide
      have he : esc false (120 :: hexd a :: hexd b :: (encs q l ++ [q])) = some ([c], 4) := by
        rw [esc, hs]
        simp only [show nn 120 = 120 from rfl, beq_self_eq_true, Bool.true_or, if_true, hexN_two a b _ h1 h2, Option.map_some]
        rw [← h3, UInt8.ofNat_toNat]
      simp [hq92, he, ih, show nn 92 = 92 from rfl]

theorem delim_lit (q : UInt8) (hq : q = 34 ∨ q = 39) (l : List UInt8) : delim (q :: (encs q l ++ [q])) = [q] := by
  cases l with
  | nil => rfl
  | cons c l =>
    obtain ⟨x, t, hx, h1, _⟩ := enc_head q c hq
    have hne : (nn q == nn x) = false := by
      rw [beq_eq_false_iff_ne]
      intro e
      exact h1 (UInt8.toNat_inj.mp (by unfold nn at e; omega))
    obtain ⟨y, z, hy⟩ : ∃ y z, t ++ (encs q l ++ [q]) = y :: z := by
      cases ht : t ++ (encs q l ++ [q]) with
      | nil =>
        have := congrArg List.length ht
        simp at this
      | cons y z => exact ⟨y, z, rfl⟩
    simp only [encs, hx, List.cons_append, List.append_assoc, hy, delim, hne, Bool.false_and, Bool.false_eq_true, if_false]

/-- The literal: one token. -/
def litTk (q : UInt8) (l : List UInt8) : Tk := ⟨kBytes, ⟨l.toArray⟩, 0, (lit q l).length, none⟩

theorem tok_lit (last : ByteArray) (q : UInt8) (hq : q = 34 ∨ q = 39) (l : List UInt8) : tok last (lit q l) = .ok (litTk q l) := by
  unfold lit
  rw [tok]
  have hp : pre 3 false false (98 :: q :: (encs q l ++ [q])) = some (1, true, false) := by
    rcases hq with rfl | rfl <;> simp [pre, show nn 98 = 98 from rfl, show nn 34 = 34 from rfl, show nn 39 = 39 from rfl]
  have s1 : single (nn 98) = false := by decide
  have s2 : (nn 98 == 46) = false := by decide
  have s3 : sign (nn 98) = false := by decide
  have s4 : (nn 98 == 96) = false := by decide
  have s5 : dg (nn 98) = false := by decide
  have hd : (98 :: q :: (encs q l ++ [q])).drop 1 = q :: (encs q l ++ [q]) := rfl
  simp only [s1, s2, s3, s4, s5, Bool.false_eq_true, if_false, hp, hd, delim_lit q hq l, Bool.not_true, if_true]
  have h2 : (q :: (encs q l ++ [q])).drop [q].length = encs q l ++ [q] := rfl
  unfold qtok
  rw [h2, qr_encs q hq l]
  simp only [Bool.false_and, Bool.false_eq_true, if_false, Out.shift, litTk, lit, List.length_cons, List.length_append, List.length_nil, Nat.zero_add]
  congr 2
  omega

theorem lex_lit (q : UInt8) (hq : q = 34 ∨ q = 39) (l : List UInt8) :
    lexL kNone false (lit q l) 0 = ([(0, ⟨[], 0, litTk q l⟩), ((lit q l).length, ⟨[], 0, plain kEof 0⟩)], none) := by
  have hgap : gap (lit q l) = ([], 0, false) := by
    refine gap_zero ?_ ?_
    · simp [lit, headSpace, spaceSeqs, List.isPrefixOf]
    · simp [lit, com, show nn 98 = 98 from rfl]
  have hn1 : next kNone false (lit q l) = .ok ⟨[], 0, litTk q l⟩ := by
    unfold next
    simp only [hgap, gapLen, comsLen, Nat.zero_add, Bool.false_eq_true, if_false, List.drop_zero, tokD, tok_lit kNone q hq l]
  have hl : (⟨[], 0, litTk q l⟩ : Nt).len = (lit q l).length := by simp [Nt.len, Nt.pre, comsLen, litTk]
  have hg : Good (litTk q l) := ⟨by simp [litTk, lit], kBytes_ne⟩
  rw [lexL_more 0 hn1 hg, hl]
  have hd : (lit q l).drop (lit q l).length = [] := List.drop_eq_nil_of_le (Nat.le_refl _)
  have hn2 : ∀ la d, next la d [] = .ok ⟨[], 0, plain kEof 0⟩ := fun la d => by
    unfold next
    simp only [gap_nil, gapLen, comsLen, Nat.zero_add, Bool.false_eq_true, if_false, List.drop_nil, tokD_nil]
  rw [hd, lexL_eof _ (hn2 _ _) rfl, Nat.zero_add]

end Go.Proofs.YtngofbhlhcalpaaGreatDoor.lexer
