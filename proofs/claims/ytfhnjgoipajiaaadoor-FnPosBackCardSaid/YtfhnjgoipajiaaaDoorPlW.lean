/-
  How long the texts of a tree are, by its size. No statement of the seat is proved here, and no program is in sight.
-/
import Derived.Test.YtfhnjgoipajiaaaDoorPlV
namespace Go.Proofs.YtfhnjgoipajiaaaDoor.pl
open Go.RowKit Go.Proofs.YtfhnjgoipajiaaaDoor.gen

theorem enc_len (l : List Nat) (h : ∀ r ∈ l, GR r) : (enc l).length ≤ 4 * l.length := by
  induction l with
  | nil => exact Nat.le_refl _
  | cons r l ih =>
    have h1 := (encU_len (h r (List.mem_cons_self ..))).2
    have h2 := ih (fun x hx => h x (List.mem_cons_of_mem _ hx))
    have e : enc (r :: l) = encU r ++ enc l := rfl
    rw [e, List.length_append, List.length_cons]
    omega
theorem itoa_len (n : Nat) (h : n ≤ 9223372036854775807) : (Lib.itoa (n : Int)).length ≤ 21 := Lib.itoa_length_le _ (by omega) (by omega)

theorem b_ie (x : List UInt8) (hx : x.length = 1) : ∀ (i : IE), WI cls GR i → (uIE i).length ≤ 24 * zIE i ∧ (gIE x i).length ≤ 24 * zIE i := by
  intro i
  induction i with
  | int n => intro h; have := itoa_len n h; simp only [uIE, gIE, zIE]; omega
  | len v => intro h; have := enc_len v h.good; simp only [uIE, gIE, zIE, List.length_append, List.length_cons, List.length_nil]; omega
  | ite c t e iht ihe =>
    intro h
    have h1 := enc_len c h.1.good
    have h2 := iht h.2.1
    have h3 := ihe h.2.2
    simp only [uIE, gIE, zIE, List.length_append, List.length_cons, List.length_nil]
    omega
theorem b_na (x : List UInt8) (hx : x.length = 1) (a : NA) (h : WA cls GR a) : (uNA a).length ≤ 24 * zNA a ∧ (gNA x a).length ≤ 24 * zNA a ∧ 1 ≤ zNA a := by
  cases a with
  | var v => have := enc_len v h.good; simp only [uNA, gNA, zNA, List.length_append, List.length_cons, List.length_nil]; omega
  | last v => have := enc_len v h.good; simp only [uNA, gNA, zNA, List.length_append, List.length_cons, List.length_nil]; omega
  | idx v i =>
    have h1 := enc_len v h.1.good
    have h2 := b_ie x hx i h.2
    simp only [uNA, gNA, zNA, List.length_append, List.length_cons, List.length_nil]
    omega
theorem b_nas (x : List UInt8) (hx : x.length = 1) (s1 s2 : List UInt8) (h1 : s1.length ≤ 4) (h2 : s2.length ≤ 4) : ∀ (l : List NA), (∀ a ∈ l, WA cls GR a) → (Lib.joinTail s1 (l.map uNA)).length ≤ 28 * zNAs l ∧ (Lib.joinTail s2 (l.map (gNA x))).length ≤ 28 * zNAs l := by
  intro l
  induction l with
  | nil => intro _; simp [Lib.joinTail, zNAs]
  | cons a l ih =>
    intro h
    have e1 : Lib.joinTail s1 ((a :: l).map uNA) = (s1 ++ uNA a) ++ Lib.joinTail s1 (l.map uNA) := by simp [Lib.joinTail]
    have e2 : Lib.joinTail s2 ((a :: l).map (gNA x)) = (s2 ++ gNA x a) ++ Lib.joinTail s2 (l.map (gNA x)) := by simp [Lib.joinTail]
    have h3 := ih (fun b hb => h b (List.mem_cons_of_mem _ hb))
    have h4 := b_na x hx a (h a (List.mem_cons_self ..))
    rw [e1, e2]
    simp only [List.length_append, zNAs]
    omega
theorem b_ne (x : List UInt8) (hx : x.length = 1) (n : NE) (h : WE cls GR n) : (uNE n).length ≤ 28 * zNE n ∧ (gNE x n).length ≤ 28 * zNE n := by
  cases n with
  | atom a => have := b_na x hx a h; simp only [uNE, gNE, zNE]; omega
  | choice a az =>
    have h1 := b_na x hx a h.1
    have h2 := b_nas x hx [32, 63, 63, 32] [44, 32] (by decide) (by decide) az h.2
    simp only [uNE, gNE, zNE, List.map_cons, Lib.join_cons, List.length_append, List.length_cons, List.length_nil]
    omega
theorem b_pa (x : List UInt8) (hx : x.length = 1) (a : PA) (h : WP cls GR a) : (uPA a).length ≤ 28 * zPA a ∧ (gPA x a).length ≤ 28 * zPA a ∧ 1 ≤ zPA a := by
  cases a with
  | var v => have := enc_len v h.good; simp only [uPA, gPA, zPA, List.length_append, List.length_cons, List.length_nil]; omega
  | pos n => have := b_ne x hx n h; simp only [uPA, gPA, zPA, List.length_append, List.length_cons, List.length_nil]; omega
  | end_ n => have := b_ne x hx n h; simp only [uPA, gPA, zPA, List.length_append, List.length_cons, List.length_nil]; omega
theorem zIs_app (a b : List IE) : zIs (a ++ b) = zIs a + zIs b := by
  induction a with
  | nil => simp [zIs]
  | cons i a ih => simp only [List.cons_append, zIs, ih]; omega
theorem zIs_rev (a : List IE) : zIs a.reverse = zIs a := by
  induction a with
  | nil => rfl
  | cons i a ih => rw [List.reverse_cons, zIs_app, ih]; simp only [zIs]; omega
theorem b_ad (x : List UInt8) (hx : x.length = 1) (a : PA) (ha : WP cls GR a) : ∀ (r : List IE), (∀ i ∈ r, WI cls GR i) → (uAd a r).length ≤ 28 * (zPA a + zIs r) ∧ (gAd x a r).length ≤ 28 * (zPA a + zIs r) := by
  intro r
  induction r with
  | nil => intro _; have := b_pa x hx a ha; simp only [uAd, gAd, zIs]; omega
  | cons i r ih =>
    intro h
    have h1 := ih (fun j hj => h j (List.mem_cons_of_mem _ hj))
    have h2 := b_ie x hx i (h i (List.mem_cons_self ..))
    simp only [uAd, gAd, zIs, List.length_append, List.length_cons, List.length_nil]
    omega
theorem b_ps (x : List UInt8) (hx : x.length = 1) (s : PS) (h : WS cls GR s) : (uPS s).length ≤ 28 * zPS s ∧ (gPS x s).length ≤ 28 * zPS s ∧ 1 ≤ zPS s := by
  have h1 := b_ad x hx s.a h.a s.is.reverse (fun i hi => h.is i (List.mem_reverse.1 hi))
  have h2 := b_pa x hx s.a h.a
  rw [zIs_rev] at h1
  unfold uPS gPS zPS
  omega
theorem b_pss (x : List UInt8) (hx : x.length = 1) (s1 s2 : List UInt8) (h1 : s1.length ≤ 4) (h2 : s2.length ≤ 4) : ∀ (l : List PS), (∀ a ∈ l, WS cls GR a) → (Lib.joinTail s1 (l.map uPS)).length ≤ 32 * zPSs l ∧ (Lib.joinTail s2 (l.map (gPS x))).length ≤ 32 * zPSs l := by
  intro l
  induction l with
  | nil => intro _; simp [Lib.joinTail, zPSs]
  | cons a l ih =>
    intro h
    have e1 : Lib.joinTail s1 ((a :: l).map uPS) = (s1 ++ uPS a) ++ Lib.joinTail s1 (l.map uPS) := by simp [Lib.joinTail]
    have e2 : Lib.joinTail s2 ((a :: l).map (gPS x)) = (s2 ++ gPS x a) ++ Lib.joinTail s2 (l.map (gPS x)) := by simp [Lib.joinTail]
    have h3 := ih (fun b hb => h b (List.mem_cons_of_mem _ hb))
    have h4 := b_ps x hx a (h a (List.mem_cons_self ..))
    rw [e1, e2]
    simp only [List.length_append, zPSs]
    omega
/-- How long the texts of a tree are. -/
theorem b_pc (x : List UInt8) (hx : x.length = 1) (e : PC) (h : WC cls GR e) : (uPC e).length ≤ 32 * zPC e ∧ (gPC x e).length ≤ 32 * zPC e := by
  have h1 := b_ps x hx e.s h.s
  have h2 := b_pss x hx [32, 124, 124, 32] [44, 32] (by decide) (by decide) e.ss h.ss
  unfold uPC gPC zPC
  split
  · omega
  · simp only [List.map_cons, Lib.join_cons, List.length_append, List.length_cons, List.length_nil]
    omega

/-- What is read is well formed. -/
theorem parse_good {s : List Nat} {e : PC} (hg : ∀ r ∈ s, GR r) (h : parse cls s = some e) : WC cls GR e := by
  unfold parse at h
  simp only [Option.bind_eq_some_iff] at h
  obtain ⟨x, hx, h⟩ := h
  split at h
  · injection h with h; subst h
    unfold pcx at hx
    simp only [Option.bind_eq_some_iff] at hx
    obtain ⟨a, ha, y, hy, hx⟩ := hx
    injection hx with hx; subst hx
    obtain ⟨h1, g1⟩ := psx_gd ha (skip_gd hg)
    exact ⟨h1, (alts_gd _ _ _ hy g1).1⟩
  · cases h

/-- The ToGo text is never empty. -/
theorem ad_ne (x : List UInt8) (hx : x.length = 1) (a : PA) (r : List IE) : 0 < (gAd x a r).length := by
  cases r with
  | nil =>
    cases a with
    | var v => simp only [gAd, gPA, List.length_append]; omega
    | pos n => simp only [gAd, gPA, List.length_append, List.length_cons]; omega
    | end_ n => simp only [gAd, gPA, List.length_append, List.length_cons]; omega
  | cons i r => simp only [gAd, List.length_append, List.length_cons]; omega
theorem gpc_ne (x : List UInt8) (hx : x.length = 1) (e : PC) : 0 < (gPC x e).length := by
  unfold gPC
  split
  · exact ad_ne x hx _ _
  · simp only [List.length_append, List.length_cons]; omega

end Go.Proofs.YtfhnjgoipajiaaaDoor.pl
