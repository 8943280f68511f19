/-
  What Unparse writes is what the plain printer writes; integers are read back. No statement of the seat is proved here, and no program is in sight.
-/
import Derived.Test.YtfhnjgoipajiaaaDoorPlT
import Derived.Lib.ItoaMem
namespace Go.Proofs.YtfhnjgoipajiaaaDoor.pl
open Go.RowKit Go.Proofs.YtfhnjgoipajiaaaDoor.gen

/-- How a number is written. -/
def D (n : Nat) : List Nat := (Lib.itoa (n : Int)).map (·.toNat)

theorem parse_snoc (d : UInt8) (h1 : 48 ≤ d.toNat) (h2 : d.toNat ≤ 57) : ∀ (l : List UInt8) (acc u : Nat), Lib.parseUint10 acc l = .ok u → u < 1844674407370955161 → Lib.parseUint10 acc (l ++ [d]) = .ok (u * 10 + (d.toNat - 48)) := by
  intro l
  induction l with
  | nil =>
    intro acc u h hu
    simp only [Lib.parseUint10] at h
    injection h with h
    subst h
    simp only [List.nil_append, Lib.parseUint10]
    rw [if_pos ⟨h1, h2⟩, if_neg (by omega), if_neg (by omega)]
  | cons c r ih =>
    intro acc u h hu
    simp only [List.cons_append, Lib.parseUint10] at h ⊢
    split at h
    · rename_i hc
      rw [if_pos hc]
      split at h
      · cases h
      · rename_i h3
        rw [if_neg h3]
        split at h
        · cases h
        · rename_i h4
          rw [if_neg h4]
          exact ih _ _ h hu
    · cases h

theorem digits_ok : ∀ (n : Nat), n ≤ 9223372036854775807 → Lib.parseUint10 0 (Lib.decDigits n) = .ok n ∧ Lib.decDigits n ≠ [] ∧ ∀ c ∈ Lib.decDigits n, 48 ≤ c.toNat ∧ c.toNat ≤ 57 := by
  intro n
  induction n using Nat.strongRecOn with
  | _ n ih =>
    intro hn
    rw [Lib.decDigits]
    split
    · rename_i h
      have e : (UInt8.ofNat (48 + n)).toNat = 48 + n := by rw [u8n]; omega
      refine ⟨?_, by simp, fun c hc => by rw [List.mem_singleton] at hc; subst hc; rw [e]; omega⟩
      simp only [Lib.parseUint10]
      rw [e, if_pos (by omega), if_neg (by omega), if_neg (by omega)]
      congr 1
      omega
    · rename_i h
      have e : (UInt8.ofNat (48 + n % 10)).toNat = 48 + n % 10 := by rw [u8n]; omega
      obtain ⟨h1, h2, h3⟩ := ih (n / 10) (by omega) (by omega)
      refine ⟨?_, by simp, fun c hc => ?_⟩
      · rw [parse_snoc _ (by rw [e]; omega) (by rw [e]; omega) _ _ _ h1 (by omega), e]
        congr 1
        omega
      · rcases List.mem_append.1 hc with hc | hc
        · exact h3 c hc
        · rw [List.mem_singleton] at hc; subst hc; rw [e]; omega

theorem enc_D (n : Nat) (hn : n ≤ 9223372036854775807) : enc (D n) = Lib.itoa (n : Int) := by
  obtain ⟨_, _, h3⟩ := digits_ok n hn
  have hi := Lib.itoa_nonneg n
  unfold D
  rw [enc_low, List.map_map]
  · conv => rhs; rw [← List.map_id (Lib.itoa (n : Int))]
    apply List.map_congr_left
    intro c _
    simp
  · intro c hc
    obtain ⟨d, hd, rfl⟩ := List.mem_map.1 hc
    rw [hi] at hd
    have := h3 d hd
    omega

theorem D_ok : DOk D := by
  intro n hn
  obtain ⟨h1, h2, h3⟩ := digits_ok n hn
  have hi := Lib.itoa_nonneg n
  refine ⟨?_, fun c hc => ?_, ?_⟩
  · unfold D; rw [hi]
    intro e
    exact h2 (List.map_eq_nil_iff.1 e)
  · unfold D at hc
    obtain ⟨d, hd, rfl⟩ := List.mem_map.1 hc
    rw [hi] at hd
    exact h3 d hd
  · unfold atoi
    rw [enc_D n hn, hi]
    have : Lib.atoiAll (Lib.decDigits n) = .ok (n : Int) := by
      cases hd : Lib.decDigits n with
      | nil => exact absurd hd h2
      | cons c r =>
        have hc := h3 c (by rw [hd]; exact List.mem_cons_self ..)
        unfold Lib.atoiAll
        simp only
        rw [if_neg (by omega), ← hd]
        unfold Lib.parseMag
        rw [if_neg h2, h1]
        simp only
        rw [if_neg (by omega), if_neg (by omega), if_neg (by omega)]
    rw [this]
    simp

theorem encC {c : Nat} (h : c < 128) (r : List Nat) : enc (c :: r) = UInt8.ofNat c :: enc r := by
  have e : enc (c :: r) = enc [c] ++ enc r := by rw [← enc_app]; rfl
  rw [e, enc_low (by simpa using h)]; rfl
theorem enc_nil : enc [] = [] := rfl

theorem u_ie : ∀ (i : IE), WI cls GR i → enc (pIE D i) = uIE i := by
  intro i
  induction i with
  | int n => intro h; exact enc_D n h
  | len v => intro _; simp [pIE, uIE, kLen, encC, enc_app, enc_nil]
  | ite c t e iht ihe => intro h; simp [pIE, uIE, encC, enc_app, enc_nil, iht h.2.1, ihe h.2.2]
theorem u_na (a : NA) (h : WA cls GR a) : enc (pNA D a) = uNA a := by
  cases a with
  | var v => rfl
  | last v => simp [pNA, uNA, encC, enc_app, enc_nil]
  | idx v i => simp [pNA, uNA, encC, enc_app, enc_nil, u_ie i h.2]
theorem u_nas : ∀ (l : List NA), (∀ a ∈ l, WA cls GR a) → enc (pNAs D l) = Lib.joinTail [32, 63, 63, 32] (l.map uNA) := by
  intro l
  induction l with
  | nil => intro _; rfl
  | cons a l ih =>
    intro h
    have e : Lib.joinTail [32, 63, 63, 32] ((a :: l).map uNA) = ([32, 63, 63, 32] ++ uNA a) ++ Lib.joinTail [32, 63, 63, 32] (l.map uNA) := by simp [Lib.joinTail]
    rw [e, ← ih (fun b hb => h b (List.mem_cons_of_mem _ hb)), ← u_na a (h a (List.mem_cons_self ..))]
    simp [pNAs, encC, enc_app]
theorem u_ne (n : NE) (h : WE cls GR n) : enc (pNE D n) = uNE n := by
  cases n with
  | atom a => exact u_na a h
  | choice a az =>
    simp only [pNE, uNE, List.map_cons, Lib.join_cons]
    rw [← u_nas az h.2, ← u_na a h.1]
    simp [encC, enc_app, enc_nil]
theorem u_pa (a : PA) (h : WP cls GR a) : enc (pPA D a) = uPA a := by
  cases a with
  | var v => rfl
  | pos n => simp [pPA, uPA, kPos, encC, enc_app, enc_nil, u_ne n h]
  | end_ n => simp [pPA, uPA, kEnd, encC, enc_app, enc_nil, u_ne n h]
theorem pIs_app (a b : List IE) : pIs D (a ++ b) = pIs D a ++ pIs D b := by
  induction a with
  | nil => rfl
  | cons i a ih => simp [pIs, ih]
theorem u_ad (a : PA) (ha : WP cls GR a) : ∀ (r : List IE), (∀ i ∈ r, WI cls GR i) → enc (pPA D a ++ pIs D r.reverse) = uAd a r := by
  intro r
  induction r with
  | nil => intro _; rw [List.reverse_nil]; simp only [pIs, List.append_nil]; exact u_pa a ha
  | cons i r ih =>
    intro h
    have h1 := ih (fun j hj => h j (List.mem_cons_of_mem _ hj))
    have h2 := u_ie i (h i (List.mem_cons_self ..))
    rw [List.reverse_cons, pIs_app, uAd, ← h1, ← h2]
    simp [pIs, encC, enc_app]
theorem u_ps (s : PS) (h : WS cls GR s) : enc (pPS D s) = uPS s := by
  have := u_ad s.a h.a s.is.reverse (fun i hi => h.is i (List.mem_reverse.1 hi))
  rw [List.reverse_reverse] at this
  exact this
theorem u_pss : ∀ (l : List PS), (∀ a ∈ l, WS cls GR a) → enc (pPSs D l) = Lib.joinTail [32, 124, 124, 32] (l.map uPS) := by
  intro l
  induction l with
  | nil => intro _; rfl
  | cons a l ih =>
    intro h
    have e : Lib.joinTail [32, 124, 124, 32] ((a :: l).map uPS) = ([32, 124, 124, 32] ++ uPS a) ++ Lib.joinTail [32, 124, 124, 32] (l.map uPS) := by simp [Lib.joinTail]
    rw [e, ← ih (fun b hb => h b (List.mem_cons_of_mem _ hb)), ← u_ps a (h a (List.mem_cons_self ..))]
    simp [pPSs, encC, enc_app]
/-- What Unparse writes. -/
theorem u_pc (e : PC) (h : WC cls GR e) : enc (print D e) = uPC e := by
  unfold uPC print
  split
  · rename_i hs
    rw [hs]
    simp only [pPSs, List.append_nil]
    exact u_ps e.s h.s
  · rw [List.map_cons, Lib.join_cons, ← u_pss e.ss h.ss, ← u_ps e.s h.s, enc_app]

end Go.Proofs.YtfhnjgoipajiaaaDoor.pl
