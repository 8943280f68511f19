/-
  The language of positions: what was read is well formed; what is written is read as the same. No statement of the seat is proved here, and no program is in sight.
-/
import Derived.Test.YtfhnjgoipajiaaaDoorPlA
namespace Go.Proofs.YtfhnjgoipajiaaaDoor.pl

variable {C : Cls} {G : Nat → Prop} {D : Nat → List Nat}

structure Gd (C : Cls) (G : Nat → Prop) (l : List Nat) : Prop where
  sk : hd C.space l = false
  good : ∀ c ∈ l, G c

theorem skip_sk (l : List Nat) : hd C.space (skipS C l) = false := by
  induction l with
  | nil => rfl
  | cons c r ih =>
    unfold skipS
    rw [List.dropWhile_cons]
    split
    · exact ih
    · rename_i h
      show C.space c = false
      cases hc : C.space c with
      | true => exact absurd hc h
      | false => rfl
theorem skip_mem {l : List Nat} {c : Nat} (h : c ∈ skipS C l) : c ∈ l := (List.dropWhile_sublist _).subset h
theorem skip_len (l : List Nat) : (skipS C l).length ≤ l.length := (List.dropWhile_sublist _).length_le
theorem skip_gd {l : List Nat} (h : ∀ c ∈ l, G c) : Gd C G (skipS C l) := ⟨skip_sk l, fun c hc => h c (skip_mem hc)⟩

theorem eat_some {t l r : List Nat} (h : eat C t l = some r) : r = skipS C (l.drop t.length) ∧ t.isPrefixOf l = true := by
  unfold eat at h
  split at h
  · rename_i hp
    injection h with h
    exact ⟨h.symm, hp⟩
  · cases h
theorem eat_gd {t l r : List Nat} (h : eat C t l = some r) (hg : Gd C G l) : Gd C G r := by
  obtain ⟨rfl, _⟩ := eat_some h
  exact skip_gd fun c hc => hg.good c (List.mem_of_mem_drop hc)
theorem eat_len {t l r : List Nat} (h : eat C t l = some r) : r.length + t.length ≤ l.length := by
  obtain ⟨rfl, hp⟩ := eat_some h
  have h1 := (List.isPrefixOf_iff_prefix.1 hp).length_le
  have h2 := skip_len (C := C) (l.drop t.length)
  rw [List.length_drop] at h2
  omega

theorem pvar_some {l : List Nat} {x : List Nat × List Nat} (h : pvar C l = some x) : hd C.letter l = true ∧ x = (l.takeWhile (idc C), skipS C (l.dropWhile (idc C))) := by
  unfold pvar at h
  split at h
  · rename_i hp
    injection h with h
    exact ⟨hp, h.symm⟩
  · cases h
theorem pvar_gd {l : List Nat} {x : List Nat × List Nat} (h : pvar C l = some x) (hg : Gd C G l) : WN C G x.1 ∧ Gd C G x.2 := by
  obtain ⟨h1, rfl⟩ := pvar_some h
  cases l with
  | nil => cases h1
  | cons c r =>
    have h1 : C.letter c = true := h1
    have hi : idc C c = true := by unfold idc; rw [h1]; rfl
    refine ⟨⟨⟨c, r.takeWhile (idc C), ?_, h1, hg.sk⟩, fun d hd => ?_, fun d hd => hg.good d ((List.takeWhile_sublist _).subset hd)⟩, skip_gd fun d hd => hg.good d ((List.dropWhile_sublist _).subset hd)⟩
    · show (c :: r).takeWhile (idc C) = _
      rw [List.takeWhile_cons, if_pos hi]
    · exact List.all_eq_true.1 List.all_takeWhile d hd
theorem pvar_len {l : List Nat} {x : List Nat × List Nat} (h : pvar C l = some x) : x.2.length + 1 ≤ l.length := by
  obtain ⟨h1, rfl⟩ := pvar_some h
  cases l with
  | nil => cases h1
  | cons c r =>
    have h1 : C.letter c = true := h1
    have hi : idc C c = true := by unfold idc; rw [h1]; rfl
    have h2 := skip_len (C := C) ((c :: r).dropWhile (idc C))
    have h3 : ((c :: r).dropWhile (idc C)).length ≤ r.length := by
      rw [List.dropWhile_cons, if_pos hi]
      exact (List.dropWhile_sublist _).length_le
    simp only [List.length_cons] at h2 ⊢
    omega

theorem atoiAll_le {l : List UInt8} {v : Int} (h : Lib.atoiAll l = .ok v) : v ≤ 9223372036854775807 := by
  unfold Lib.atoiAll at h
  split at h
  · cases h
  · simp only at h
    split at h
    · cases h
    · cases h
    · split at h
      · cases h
      · split at h
        · cases h
        · injection h with h
          split at h <;> omega
theorem atoi_some {l : List Nat} {n : Nat} (h : atoi l = some n) : n ≤ 9223372036854775807 := by
  unfold atoi at h
  split at h
  · rename_i v hv
    have := atoiAll_le hv
    injection h with h
    omega
  · cases h

theorem digits_gd {l : List Nat} (hg : Gd C G l) : Gd C G (skipS C (l.dropWhile C.digit)) := skip_gd fun d hd => hg.good d ((List.dropWhile_sublist _).subset hd)
theorem digits_len {l : List Nat} (h : hd C.digit l = true) : (skipS C (l.dropWhile C.digit)).length + 1 ≤ l.length := by
  cases l with
  | nil => cases h
  | cons c r =>
    have h : C.digit c = true := h
    have h2 := skip_len (C := C) ((c :: r).dropWhile C.digit)
    have h3 : ((c :: r).dropWhile C.digit).length ≤ r.length := by
      rw [List.dropWhile_cons, if_pos h]
      exact (List.dropWhile_sublist _).length_le
    simp only [List.length_cons] at h2 ⊢
    omega

theorem iat_gd : ∀ (f : Nat) (l : List Nat) (x : IE × List Nat), iat C f l = some x → Gd C G l → WI C G x.1 ∧ Gd C G x.2 := by
  intro f
  induction f with
  | zero => intro l x h; cases h
  | succ f ih =>
    intro l x h hg
    rw [iat] at h
    split at h
    · rename_i l1 h1
      simp only [Option.bind_eq_some_iff] at h
      obtain ⟨c, hc, l3, h3, t, ht, l5, h5, e, he, l7, h7, hx⟩ := h
      injection hx with hx
      subst hx
      obtain ⟨wc, g2⟩ := pvar_gd hc (eat_gd h1 hg)
      obtain ⟨wt, g4⟩ := ih _ _ ht (eat_gd h3 g2)
      obtain ⟨we, g6⟩ := ih _ _ he (eat_gd h5 g4)
      exact ⟨⟨wc, wt, we⟩, eat_gd h7 g6⟩
    · split at h
      · simp only [Option.bind_eq_some_iff] at h
        obtain ⟨n, hn, hx⟩ := h
        injection hx with hx
        subst hx
        exact ⟨atoi_some hn, digits_gd hg⟩
      · simp only [Option.bind_eq_some_iff] at h
        obtain ⟨v, hv, h⟩ := h
        split at h
        · simp only [Option.bind_eq_some_iff] at h
          obtain ⟨l2, h2, s, hs, l4, h4, hx⟩ := h
          injection hx with hx
          subst hx
          obtain ⟨_, g1⟩ := pvar_gd hv hg
          obtain ⟨ws, g3⟩ := pvar_gd hs (eat_gd h2 g1)
          exact ⟨ws, eat_gd h4 g3⟩
        · cases h
theorem iat_len : ∀ (f : Nat) (l : List Nat) (x : IE × List Nat), iat C f l = some x → x.2.length + 1 ≤ l.length := by
  intro f
  induction f with
  | zero => intro l x h; cases h
  | succ f ih =>
    intro l x h
    rw [iat] at h
    split at h
    · rename_i l1 h1
      simp only [Option.bind_eq_some_iff] at h
      obtain ⟨c, hc, l3, h3, t, ht, l5, h5, e, he, l7, h7, hx⟩ := h
      injection hx with hx
      subst hx
      have a1 := eat_len h1
      have a2 := pvar_len hc
      have a3 := eat_len h3
      have a4 := ih _ _ ht
      have a5 := eat_len h5
      have a6 := ih _ _ he
      have a7 := eat_len h7
      simp only [List.length_cons, List.length_nil] at *
      omega
    · split at h
      · rename_i hd
        simp only [Option.bind_eq_some_iff] at h
        obtain ⟨n, hn, hx⟩ := h
        injection hx with hx
        subst hx
        exact digits_len hd
      · simp only [Option.bind_eq_some_iff] at h
        obtain ⟨v, hv, h⟩ := h
        split at h
        · simp only [Option.bind_eq_some_iff] at h
          obtain ⟨l2, h2, s, hs, l4, h4, hx⟩ := h
          injection hx with hx
          subst hx
          have a1 := pvar_len hv
          have a2 := eat_len h2
          have a3 := pvar_len hs
          have a4 := eat_len h4
          simp only [List.length_cons, List.length_nil] at *
          omega
        · cases h

theorem nat_gd {f : Nat} {l : List Nat} {x : NA × List Nat} (h : nat' C f l = some x) (hg : Gd C G l) : WA C G x.1 ∧ Gd C G x.2 := by
  unfold nat' at h
  simp only [Option.bind_eq_some_iff] at h
  obtain ⟨v, hv, h⟩ := h
  obtain ⟨wv, g1⟩ := pvar_gd hv hg
  split at h
  · injection h with h
    subst h
    exact ⟨wv, g1⟩
  · rename_i l1 h1
    have g2 := eat_gd h1 g1
    split at h
    · rename_i l2 h2
      simp only [Option.bind_eq_some_iff] at h
      obtain ⟨l3, h3, hx⟩ := h
      injection hx with hx
      subst hx
      exact ⟨wv, eat_gd h3 (eat_gd h2 g2)⟩
    · simp only [Option.bind_eq_some_iff] at h
      obtain ⟨y, hy, l3, h3, hx⟩ := h
      injection hx with hx
      subst hx
      obtain ⟨wy, g3⟩ := iat_gd _ _ _ hy g2
      exact ⟨⟨wv, wy⟩, eat_gd h3 g3⟩
theorem nat_len {f : Nat} {l : List Nat} {x : NA × List Nat} (h : nat' C f l = some x) : x.2.length + 1 ≤ l.length := by
  unfold nat' at h
  simp only [Option.bind_eq_some_iff] at h
  obtain ⟨v, hv, h⟩ := h
  have a1 := pvar_len hv
  split at h
  · injection h with h
    subst h
    exact a1
  · rename_i l1 h1
    have a2 := eat_len h1
    split at h
    · rename_i l2 h2
      have a3 := eat_len h2
      simp only [Option.bind_eq_some_iff] at h
      obtain ⟨l3, h3, hx⟩ := h
      injection hx with hx
      subst hx
      have a4 := eat_len h3
      simp only at *
      omega
    · simp only [Option.bind_eq_some_iff] at h
      obtain ⟨y, hy, l3, h3, hx⟩ := h
      injection hx with hx
      subst hx
      have a3 := iat_len _ _ _ hy
      have a4 := eat_len h3
      simp only at *
      omega

theorem nats_gd {f : Nat} : ∀ (k : Nat) (l : List Nat) (x : List NA × List Nat), nats C f k l = some x → Gd C G l → (∀ b ∈ x.1, WA C G b) ∧ Gd C G x.2 := by
  intro k
  induction k with
  | zero => intro l x h; cases h
  | succ k ih =>
    intro l x h hg
    rw [nats] at h
    split at h
    · injection h with h
      subst h
      exact ⟨fun b hb => (by cases hb), hg⟩
    · rename_i l1 h1
      simp only [Option.bind_eq_some_iff] at h
      obtain ⟨a, ha, y, hy, hx⟩ := h
      injection hx with hx
      subst hx
      obtain ⟨wa, g1⟩ := nat_gd ha (eat_gd h1 hg)
      obtain ⟨wy, g2⟩ := ih _ _ hy g1
      refine ⟨fun b hb => ?_, g2⟩
      rcases List.mem_cons.1 hb with rfl | hb
      · exact wa
      · exact wy b hb

theorem nex_gd {f : Nat} {l : List Nat} {x : NE × List Nat} (h : nex C f l = some x) (hg : Gd C G l) : WE C G x.1 ∧ Gd C G x.2 := by
  unfold nex at h
  split at h
  · rename_i l1 h1
    simp only [Option.bind_eq_some_iff] at h
    obtain ⟨a, ha, y, hy, l2, h2, hx⟩ := h
    injection hx with hx
    subst hx
    obtain ⟨wa, g1⟩ := nat_gd ha (eat_gd h1 hg)
    obtain ⟨wy, g2⟩ := nats_gd _ _ _ hy g1
    exact ⟨⟨wa, wy⟩, eat_gd h2 g2⟩
  · simp only [Option.bind_eq_some_iff] at h
    obtain ⟨a, ha, hx⟩ := h
    injection hx with hx
    subst hx
    exact nat_gd ha hg

theorem paOf_wf {n : NE} {a : PA} (h : paOf n = some a) (hn : WE C G n) : WP C G a := by
  unfold paOf at h
  split at h
  · injection h with h
    subst h
    exact hn
  · cases h

theorem pat_gd {f : Nat} {l : List Nat} {x : PA × List Nat} (h : pat C f l = some x) (hg : Gd C G l) : WP C G x.1 ∧ Gd C G x.2 := by
  unfold pat at h
  simp only [Option.bind_eq_some_iff] at h
  obtain ⟨n, hn, h⟩ := h
  obtain ⟨wn, g1⟩ := nex_gd hn hg
  split at h
  · rename_i l1 h1
    simp only [Option.bind_eq_some_iff] at h
    obtain ⟨y, hy, h⟩ := h
    obtain ⟨_, g2⟩ := pvar_gd hy (eat_gd h1 g1)
    split at h
    · injection h with h
      subst h
      exact ⟨wn, g2⟩
    · split at h
      · injection h with h
        subst h
        exact ⟨wn, g2⟩
      · cases h
  · simp only [Option.bind_eq_some_iff] at h
    obtain ⟨a, ha, hx⟩ := h
    injection hx with hx
    subst hx
    exact ⟨paOf_wf ha wn, g1⟩

theorem adds_gd {f : Nat} : ∀ (k : Nat) (l : List Nat) (x : List IE × List Nat), adds C f k l = some x → Gd C G l → (∀ b ∈ x.1, WI C G b) ∧ Gd C G x.2 := by
  intro k
  induction k with
  | zero => intro l x h; cases h
  | succ k ih =>
    intro l x h hg
    rw [adds] at h
    split at h
    · injection h with h
      subst h
      exact ⟨fun b hb => (by cases hb), hg⟩
    · rename_i l1 h1
      simp only [Option.bind_eq_some_iff] at h
      obtain ⟨a, ha, y, hy, hx⟩ := h
      injection hx with hx
      subst hx
      obtain ⟨wa, g1⟩ := iat_gd _ _ _ ha (eat_gd h1 hg)
      obtain ⟨wy, g2⟩ := ih _ _ hy g1
      refine ⟨fun b hb => ?_, g2⟩
      rcases List.mem_cons.1 hb with rfl | hb
      · exact wa
      · exact wy b hb

theorem psx_gd {f : Nat} {l : List Nat} {x : PS × List Nat} (h : psx C f l = some x) (hg : Gd C G l) : WS C G x.1 ∧ Gd C G x.2 := by
  unfold psx at h
  simp only [Option.bind_eq_some_iff] at h
  obtain ⟨a, ha, y, hy, hx⟩ := h
  injection hx with hx
  subst hx
  obtain ⟨wa, g1⟩ := pat_gd ha hg
  obtain ⟨wy, g2⟩ := adds_gd _ _ _ hy g1
  exact ⟨⟨wa, wy⟩, g2⟩

theorem alts_gd {f : Nat} : ∀ (k : Nat) (l : List Nat) (x : List PS × List Nat), alts C f k l = some x → Gd C G l → (∀ b ∈ x.1, WS C G b) ∧ Gd C G x.2 := by
  intro k
  induction k with
  | zero => intro l x h; cases h
  | succ k ih =>
    intro l x h hg
    rw [alts] at h
    split at h
    · injection h with h
      subst h
      exact ⟨fun b hb => (by cases hb), hg⟩
    · rename_i l1 h1
      simp only [Option.bind_eq_some_iff] at h
      obtain ⟨a, ha, y, hy, hx⟩ := h
      injection hx with hx
      subst hx
      obtain ⟨wa, g1⟩ := psx_gd ha (eat_gd h1 hg)
      obtain ⟨wy, g2⟩ := ih _ _ hy g1
      refine ⟨fun b hb => ?_, g2⟩
      rcases List.mem_cons.1 hb with rfl | hb
      · exact wa
      · exact wy b hb

theorem parse_wf {s : List Nat} {e : PC} (h : parse C s = some e) (hg : ∀ c ∈ s, G c) : WC C G e := by
  unfold parse at h
  simp only [Option.bind_eq_some_iff] at h
  obtain ⟨x, hx, h⟩ := h
  split at h
  · injection h with h
    subst h
    unfold pcx at hx
    simp only [Option.bind_eq_some_iff] at hx
    obtain ⟨a, ha, y, hy, hx⟩ := hx
    injection hx with hx
    subst hx
    obtain ⟨wa, g1⟩ := psx_gd ha (skip_gd hg)
    obtain ⟨wy, _⟩ := alts_gd _ _ _ hy g1
    exact ⟨wa, wy⟩
  · cases h

/-! What is written is read as the same. -/

theorem hd_of {p : Nat → Bool} {c : Nat} {r : List Nat} (h : p c = false) : hd p (c :: r) = false := h

theorem skip_no {c : Nat} {r : List Nat} (h : C.space c = false) : skipS C (c :: r) = c :: r := by
  unfold skipS
  rw [List.dropWhile_cons, if_neg (by rw [h]; simp)]
theorem skip_of {l : List Nat} (h : hd C.space l = false) : skipS C l = l := by
  cases l with
  | nil => rfl
  | cons c r => exact skip_no h
theorem skip_sp (hC : C.Ok) (r : List Nat) : skipS C (32 :: r) = skipS C r := by
  unfold skipS
  rw [List.dropWhile_cons, if_pos (by rw [(hC.low 32 (by decide)).2.2]; decide)]

theorem sym (hC : C.Ok) {c : Nat} (h : c = 46 ∨ c = 124 ∨ c = 43 ∨ c = 40 ∨ c = 41 ∨ c = 63 ∨ c = 91 ∨ c = 93 ∨ c = 36 ∨ c = 58) : C.letter c = false ∧ C.digit c = false ∧ C.space c = false ∧ idc C c = false := by
  have h1 := hC.low c (by omega)
  unfold idc
  rcases h with rfl | rfl | rfl | rfl | rfl | rfl | rfl | rfl | rfl | rfl <;> (rw [h1.1, h1.2.1, h1.2.2]; decide)
theorem sp (hC : C.Ok) : C.letter 32 = false ∧ C.digit 32 = false ∧ C.space 32 = true ∧ idc C 32 = false := by
  have h1 := hC.low 32 (by omega)
  unfold idc
  rw [h1.1, h1.2.1, h1.2.2]; decide

theorem eat_one (c : Nat) (r : List Nat) : eat C [c] (c :: r) = some (skipS C r) := by simp [eat, List.isPrefixOf]
theorem eat_two (c d : Nat) (r : List Nat) : eat C [c, d] (c :: d :: r) = some (skipS C r) := by simp [eat, List.isPrefixOf]
theorem eat_no {c : Nat} {t l : List Nat} (h : hd (fun x => x == c) l = false) : eat C (c :: t) l = none := by
  unfold eat
  cases l with
  | nil => simp [List.isPrefixOf]
  | cons d r =>
    have h : (d == c) = false := h
    have h2 : (c == d) = false := by
      rw [beq_eq_false_iff_ne] at h ⊢
      exact fun e => h e.symm
    simp [List.isPrefixOf, h2]

theorem WN.hd {v : List Nat} (h : WN C G v) (p : Nat → Bool) (r : List Nat) (hp : ∀ c, C.letter c = true → C.space c = false → p c = false) : hd p (v ++ r) = false := by
  obtain ⟨c, u, rfl, h1, h2⟩ := h.head
  exact hp c h1 h2
theorem WN.skip {v : List Nat} (h : WN C G v) (r : List Nat) : skipS C (v ++ r) = v ++ r := skip_of (h.hd _ r fun _ _ h2 => h2)
theorem WN.letter {v : List Nat} (h : WN C G v) (r : List Nat) : pl.hd C.letter (v ++ r) = true := by
  obtain ⟨c, u, rfl, h1, h2⟩ := h.head
  exact h1
theorem WN.not (hC : C.Ok) {v : List Nat} (h : WN C G v) (r : List Nat) {c : Nat} (hc : c = 46 ∨ c = 124 ∨ c = 43 ∨ c = 40 ∨ c = 41 ∨ c = 63 ∨ c = 91 ∨ c = 93 ∨ c = 36 ∨ c = 58) : pl.hd (fun x => x == c) (v ++ r) = false :=
  h.hd _ r fun d h1 _ => by
    rw [beq_eq_false_iff_ne]
    rintro rfl
    rw [(sym hC hc).1] at h1
    cases h1

theorem takeWhile_hd {p : Nat → Bool} {r : List Nat} (h : hd p r = false) : r.takeWhile p = [] ∧ r.dropWhile p = r := by
  cases r with
  | nil => exact ⟨rfl, rfl⟩
  | cons c r =>
    have h : p c = false := h
    rw [List.takeWhile_cons, List.dropWhile_cons, h]
    exact ⟨rfl, rfl⟩

theorem pvar_app {v : List Nat} (hv : WN C G v) {r : List Nat} (hr : hd (idc C) r = false) : pvar C (v ++ r) = some (v, skipS C r) := by
  obtain ⟨h1, h2⟩ := takeWhile_hd hr
  unfold pvar
  rw [if_pos (hv.letter r), List.takeWhile_append_of_pos hv.all, List.dropWhile_append_of_pos hv.all, h1, h2, List.append_nil]

theorem wnLow (hC : C.Ok) {v : List Nat} (h : v.all (fun c => 97 ≤ c && c ≤ 122) = true) (hne : v ≠ []) : WN C (fun _ => True) v := by
  rw [List.all_eq_true] at h
  have key : ∀ c ∈ v, C.letter c = true ∧ C.space c = false := fun c hc => by
    have h1 := h c hc
    rw [Bool.and_eq_true, decide_eq_true_eq, decide_eq_true_eq] at h1
    have h2 := hC.low c (by omega)
    refine ⟨by rw [h2.1]; simp [h1], ?_⟩
    rw [h2.2.2]
    have a1 : decide (c ≤ 13) = false := by simp; omega
    have a2 : (c == 32) = false := by rw [beq_eq_false_iff_ne]; omega
    rw [a1, a2]; simp
  cases v with
  | nil => exact absurd rfl hne
  | cons c r => exact ⟨⟨c, r, rfl, key c (List.mem_cons_self ..)⟩, fun d hd => by unfold idc; rw [(key d hd).1]; rfl, fun _ _ => trivial⟩

theorem dig (hC : C.Ok) (hD : DOk D) {n : Nat} (hn : n ≤ 9223372036854775807) (r : List Nat) (hr : hd C.digit r = false) :
    hd C.digit (D n ++ r) = true ∧ (D n ++ r).takeWhile C.digit = D n ∧ (D n ++ r).dropWhile C.digit = r ∧ atoi (D n) = some n ∧ (∀ p, (∀ c, 48 ≤ c → c ≤ 57 → p c = false) → hd p (D n ++ r) = false) := by
  obtain ⟨h1, h2, h3⟩ := hD n hn
  have h4 : ∀ c ∈ D n, C.digit c = true := fun c hc => by
    obtain ⟨a, b⟩ := h2 c hc
    rw [(hC.low c (by omega)).2.1]; simp [a, b]
  obtain ⟨k1, k2⟩ := takeWhile_hd hr
  refine ⟨?_, ?_, ?_, ?_, ?_⟩
  · cases hdn : D n with
    | nil => exact absurd hdn h1
    | cons c l => exact h4 c (by rw [hdn]; exact List.mem_cons_self ..)
  · rw [List.takeWhile_append_of_pos h4, k1, List.append_nil]
  · rw [List.dropWhile_append_of_pos h4, k2]
  · exact h3
  · intro p hp
    cases hdn : D n with
    | nil => exact absurd hdn h1
    | cons c l =>
      obtain ⟨a, b⟩ := h2 c (by rw [hdn]; exact List.mem_cons_self ..)
      exact hp c a b

theorem pIE_hd (_hC : C.Ok) (hD : DOk D) {i : IE} (hi : WI C G i) (r : List Nat) (p : Nat → Bool) (hp : ∀ c, ((48 ≤ c ∧ c ≤ 57) ∨ c = 108 ∨ c = 40) → p c = false) : hd p (pIE D i ++ r) = false := by
  cases i with
  | int n => 
    obtain ⟨h1, h2, h3⟩ := hD n hi
    show hd p (D n ++ r) = false
    cases hdn : D n with
    | nil => exact absurd hdn h1
    | cons c l => exact hp c (.inl (h2 c (by rw [hdn]; exact List.mem_cons_self ..)))
  | len v => exact hp 108 (.inr (.inl rfl))
  | ite c t e => exact hp 40 (.inr (.inr rfl))
theorem pIE_skip (hC : C.Ok) (hD : DOk D) {i : IE} (hi : WI C G i) (r : List Nat) : skipS C (pIE D i ++ r) = pIE D i ++ r :=
  skip_of (pIE_hd hC hD hi r _ fun c hc => by
    rw [(hC.low c (by omega)).2.2]
    rcases hc with ⟨h1, h2⟩ | rfl | rfl
    · have a1 : decide (c ≤ 13) = false := by simp; omega
      have a2 : (c == 32) = false := by rw [beq_eq_false_iff_ne]; omega
      rw [a1, a2]; simp
    · decide
    · decide)

theorem iat_rt (hC : C.Ok) (hD : DOk D) : ∀ (i : IE) (f : Nat) (r : List Nat), WI C G i → hd C.digit r = false → (pIE D i ++ r).length < f → iat C f (pIE D i ++ r) = some (i, skipS C r) := by
  intro i
  induction i with
  | int n =>
    intro f r hi hr hf
    obtain ⟨f, rfl⟩ : ∃ g, f = g + 1 := ⟨f - 1, by omega⟩
    obtain ⟨h1, h2, h3, h4, h5⟩ := dig hC hD hi r hr
    show iat C (f + 1) (D n ++ r) = _
    have hk : eat C [40] (D n ++ r) = none := eat_no (h5 _ fun c a b => by rw [beq_eq_false_iff_ne]; omega)
    rw [iat]
    simp only [hk, h1, if_true, h2, h3, h4, Option.bind_some]
  | len v =>
    intro f r hi hr hf
    obtain ⟨f, rfl⟩ : ∃ g, f = g + 1 := ⟨f - 1, by omega⟩
    have hv : WN C G v := hi
    have e : pIE D (.len v) ++ r = kLen ++ (40 :: (v ++ (41 :: r))) := by simp [pIE]
    rw [e, iat]
    have k40 := sym hC (c := 40) (by simp)
    have k41 := sym hC (c := 41) (by simp)
    have hk : eat C [40] (kLen ++ (40 :: (v ++ (41 :: r)))) = none := eat_no rfl
    have hd0 : hd C.digit (kLen ++ (40 :: (v ++ (41 :: r)))) = false := (hC.low 108 (by decide)).2.1
    have hp := pvar_app (wnLow hC (v := kLen) (by decide) (by decide)) (r := 40 :: (v ++ (41 :: r))) k40.2.2.2
    have hp2 := pvar_app hv (r := 41 :: r) k41.2.2.2
    simp only [hk, hd0, Bool.false_eq_true, if_false, hp, Option.bind_some, if_true, skip_no k40.2.2.1, eat_one, hv.skip, hp2, skip_no k41.2.2.1]
  | ite c t e iht ihe =>
    intro f r hi hr hf
    obtain ⟨f, rfl⟩ : ∃ g, f = g + 1 := ⟨f - 1, by omega⟩
    obtain ⟨hc, ht, he⟩ := hi
    have e1 : pIE D (.ite c t e) ++ r = 40 :: (c ++ (32 :: 63 :: 32 :: (pIE D t ++ (32 :: 58 :: 32 :: (pIE D e ++ (41 :: r)))))) := by simp [pIE]
    rw [e1] at hf ⊢
    rw [iat]
    have k41 := sym hC (c := 41) (by simp)
    have k63 := sym hC (c := 63) (by simp)
    have k58 := sym hC (c := 58) (by simp)
    have ks := sp hC
    simp only [List.length_cons, List.length_append] at hf
    have hp := pvar_app hc (r := 32 :: 63 :: 32 :: (pIE D t ++ (32 :: 58 :: 32 :: (pIE D e ++ (41 :: r))))) ks.2.2.2
    have h1 := iht f (32 :: 58 :: 32 :: (pIE D e ++ (41 :: r))) ht ks.2.1 (by simp only [List.length_cons, List.length_append]; omega)
    have h2 := ihe f (41 :: r) he k41.2.1 (by simp only [List.length_cons, List.length_append]; omega)
    simp only [eat_one, hc.skip, hp, Option.bind_some, skip_sp hC, skip_no k63.2.2.1, pIE_skip hC hD ht, h1, skip_no k58.2.2.1, pIE_skip hC hD he, h2, skip_no k41.2.2.1]

theorem pNA_skip {a : NA} (ha : WA C G a) (r : List Nat) : skipS C (pNA D a ++ r) = pNA D a ++ r := by
  cases a with
  | var v => exact WN.skip ha r
  | last v =>
    have e : pNA D (.last v) ++ r = v ++ ([91, 36, 93] ++ r) := by simp [pNA]
    rw [e]; exact WN.skip ha _
  | idx v i =>
    have e : pNA D (.idx v i) ++ r = v ++ (91 :: (pIE D i ++ [93]) ++ r) := by simp [pNA]
    rw [e]; exact WN.skip ha.1 _
theorem pNA_not (hC : C.Ok) {a : NA} (ha : WA C G a) (r : List Nat) : hd (fun x => x == 40) (pNA D a ++ r) = false := by
  cases a with
  | var v => exact WN.not hC ha r (by simp)
  | last v =>
    have e : pNA D (.last v) ++ r = v ++ ([91, 36, 93] ++ r) := by simp [pNA]
    rw [e]; exact WN.not hC ha _ (by simp)
  | idx v i =>
    have e : pNA D (.idx v i) ++ r = v ++ (91 :: (pIE D i ++ [93]) ++ r) := by simp [pNA]
    rw [e]; exact WN.not hC ha.1 _ (by simp)

theorem nat_rt (hC : C.Ok) (hD : DOk D) (a : NA) (f : Nat) (r : List Nat) (ha : WA C G a) (hr : hd (idc C) r = false) (hb : hd (fun x => x == 91) (skipS C r) = false) (hf : (pNA D a ++ r).length < f) : nat' C f (pNA D a ++ r) = some (a, skipS C r) := by
  have k91 := sym hC (c := 91) (by simp)
  have k93 := sym hC (c := 93) (by simp)
  have k36 := sym hC (c := 36) (by simp)
  cases a with
  | var v =>
    have ha : WN C G v := ha
    show nat' C f (v ++ r) = _
    unfold nat'
    simp only [pvar_app ha hr, Option.bind_some, eat_no hb]
  | last v =>
    have ha : WN C G v := ha
    have e : pNA D (.last v) ++ r = v ++ (91 :: 36 :: 93 :: r) := by simp [pNA]
    rw [e]
    unfold nat'
    simp only [pvar_app ha (r := 91 :: 36 :: 93 :: r) k91.2.2.2, Option.bind_some, skip_no k91.2.2.1, eat_one, skip_no k36.2.2.1, skip_no k93.2.2.1]
  | idx v i =>
    obtain ⟨hv, hi⟩ := ha
    have e : pNA D (.idx v i) ++ r = v ++ (91 :: (pIE D i ++ (93 :: r))) := by simp [pNA]
    rw [e] at hf ⊢
    simp only [List.length_cons, List.length_append] at hf
    have h1 := iat_rt hC hD i f (93 :: r) hi k93.2.1 (by simp only [List.length_cons, List.length_append]; omega)
    have h2 : eat C [36] (pIE D i ++ (93 :: r)) = none := eat_no (pIE_hd hC hD hi _ _ fun c hc => by rw [beq_eq_false_iff_ne]; omega)
    unfold nat'
    simp only [pvar_app hv (r := 91 :: (pIE D i ++ (93 :: r))) k91.2.2.2, Option.bind_some, skip_no k91.2.2.1, eat_one, pIE_skip hC hD hi, h2, h1, skip_no k93.2.2.1]

/-- Behind a node of a choice. -/
theorem pNAs_hd (hC : C.Ok) (as : List NA) (r : List Nat) : hd (idc C) (pNAs D as ++ 41 :: r) = false ∧ hd (fun x => x == 91) (skipS C (pNAs D as ++ 41 :: r)) = false := by
  have k41 := sym hC (c := 41) (by simp)
  have k63 := sym hC (c := 63) (by simp)
  have ks := sp hC
  cases as with
  | nil =>
    refine ⟨k41.2.2.2, ?_⟩
    show hd _ (skipS C (41 :: r)) = false
    rw [skip_no k41.2.2.1]; rfl
  | cons a as =>
    refine ⟨ks.2.2.2, ?_⟩
    show hd _ (skipS C (32 :: 63 :: _)) = false
    rw [skip_sp hC, skip_no k63.2.2.1]; rfl

theorem nats_rt (hC : C.Ok) (hD : DOk D) (f : Nat) (r : List Nat) : ∀ (as : List NA) (k : Nat), (∀ b ∈ as, WA C G b) → (pNAs D as ++ 41 :: r).length < k → (pNAs D as ++ 41 :: r).length < f → nats C f k (skipS C (pNAs D as ++ 41 :: r)) = some (as, 41 :: r) := by
  have k41 := sym hC (c := 41) (by simp)
  have k63 := sym hC (c := 63) (by simp)
  have ks := sp hC
  intro as
  induction as with
  | nil =>
    intro k _ hk _
    obtain ⟨k, rfl⟩ : ∃ g, k = g + 1 := ⟨k - 1, by omega⟩
    show nats C f (k + 1) (skipS C (41 :: r)) = _
    rw [skip_no k41.2.2.1, nats, eat_no (c := 63) (l := 41 :: r) rfl]
  | cons a as ih =>
    intro k hw hk hf
    obtain ⟨k, rfl⟩ : ∃ g, k = g + 1 := ⟨k - 1, by omega⟩
    have wa := hw a (List.mem_cons_self ..)
    have e : pNAs D (a :: as) ++ 41 :: r = 32 :: 63 :: 63 :: 32 :: (pNA D a ++ (pNAs D as ++ 41 :: r)) := by simp [pNAs]
    rw [e] at hk hf ⊢
    obtain ⟨q1, q2⟩ := pNAs_hd (D := D) hC as r
    simp only [List.length_cons, List.length_append] at hk hf
    have h1 := nat_rt hC hD a f (pNAs D as ++ 41 :: r) wa q1 q2 (by simp only [List.length_cons, List.length_append]; omega)
    have h2 := ih k (fun b hb => hw b (List.mem_cons_of_mem _ hb)) (by simp only [List.length_cons, List.length_append]; omega) (by simp only [List.length_cons, List.length_append]; omega)
    rw [skip_sp hC, skip_no k63.2.2.1, nats, eat_two]
    simp only [skip_sp hC, pNA_skip wa, h1, Option.bind_some, h2]

theorem nex_rt (hC : C.Ok) (hD : DOk D) (n : NE) (f : Nat) (r : List Nat) (hn : WE C G n) (hr : hd (idc C) r = false) (hb : hd (fun x => x == 91) (skipS C r) = false) (hf : (pNE D n ++ r).length < f) : nex C f (pNE D n ++ r) = some (n, skipS C r) := by
  cases n with
  | atom a =>
    have hn : WA C G a := hn
    show nex C f (pNA D a ++ r) = _
    unfold nex
    simp only [eat_no (t := []) (pNA_not (D := D) hC hn r), nat_rt hC hD a f r hn hr hb hf, Option.bind_some]
  | choice a as =>
    obtain ⟨wa, was⟩ := hn
    have e : pNE D (.choice a as) ++ r = 40 :: (pNA D a ++ (pNAs D as ++ 41 :: r)) := by simp [pNE]
    rw [e] at hf ⊢
    simp only [List.length_cons, List.length_append] at hf
    obtain ⟨q1, q2⟩ := pNAs_hd (D := D) hC as r
    have h1 := nat_rt hC hD a f (pNAs D as ++ 41 :: r) wa q1 q2 (by simp only [List.length_cons, List.length_append]; omega)
    have h2 := nats_rt hC hD f r as f was (by simp only [List.length_cons, List.length_append]; omega) (by simp only [List.length_cons, List.length_append]; omega)
    unfold nex
    simp only [eat_one, pNA_skip wa, h1, Option.bind_some, h2]

theorem pNE_skip (hC : C.Ok) {n : NE} (hn : WE C G n) (r : List Nat) : skipS C (pNE D n ++ r) = pNE D n ++ r := by
  cases n with
  | atom a => exact pNA_skip hn r
  | choice a as => exact skip_no (sym hC (c := 40) (by simp)).2.2.1

theorem pPA_skip (hC : C.Ok) {a : PA} (ha : WP C G a) (r : List Nat) : skipS C (pPA D a ++ r) = pPA D a ++ r := by
  cases a with
  | var v => exact WN.skip ha r
  | pos n =>
    have e : pPA D (.pos n) ++ r = pNE D n ++ (46 :: (kPos ++ r)) := by simp [pPA]
    rw [e]; exact pNE_skip hC ha _
  | end_ n =>
    have e : pPA D (.end_ n) ++ r = pNE D n ++ (46 :: (kEnd ++ r)) := by simp [pPA]
    rw [e]; exact pNE_skip hC ha _

theorem pat_rt (hC : C.Ok) (hD : DOk D) (a : PA) (f : Nat) (r : List Nat) (ha : WP C G a) (hr : hd (idc C) r = false) (hb : hd (fun x => x == 91) (skipS C r) = false) (hd' : hd (fun x => x == 46) (skipS C r) = false) (hf : (pPA D a ++ r).length < f) : pat C f (pPA D a ++ r) = some (a, skipS C r) := by
  have k46 := sym hC (c := 46) (by simp)
  have behind : ∀ (k : List Nat) (n : NE), k.all (fun c => 97 ≤ c && c ≤ 122) = true → k ≠ [] → WE C G n → (pNE D n ++ (46 :: (k ++ r))).length < f → nex C f (pNE D n ++ (46 :: (k ++ r))) = some (n, 46 :: (k ++ r)) ∧ skipS C (k ++ r) = k ++ r ∧ pvar C (k ++ r) = some (k, skipS C r) := by
    intro k n h1 h2 wn hl
    have wk := wnLow hC h1 h2
    have := nex_rt hC hD n f (46 :: (k ++ r)) wn k46.2.2.2 (by rw [skip_no k46.2.2.1]; rfl) hl
    rw [skip_no k46.2.2.1] at this
    exact ⟨this, wk.skip r, pvar_app wk hr⟩
  cases a with
  | var v =>
    have ha : WN C G v := ha
    have h1 := nex_rt hC hD (.atom (.var v)) f r ha hr hb hf
    have h1 : nex C f (v ++ r) = some (.atom (.var v), skipS C r) := h1
    show pat C f (v ++ r) = _
    unfold pat
    simp only [h1, Option.bind_some, eat_no (t := []) hd', paOf]
  | pos n =>
    have e : pPA D (.pos n) ++ r = pNE D n ++ (46 :: (kPos ++ r)) := by simp [pPA]
    rw [e] at hf ⊢
    obtain ⟨h1, h2, h3⟩ := behind kPos n (by decide) (by decide) ha hf
    unfold pat
    simp only [h1, Option.bind_some, eat_one, h2, h3, if_true]
  | end_ n =>
    have e : pPA D (.end_ n) ++ r = pNE D n ++ (46 :: (kEnd ++ r)) := by simp [pPA]
    rw [e] at hf ⊢
    obtain ⟨h1, h2, h3⟩ := behind kEnd n (by decide) (by decide) ha hf
    have hne : ¬ kEnd = kPos := by decide
    unfold pat
    simp only [h1, Option.bind_some, eat_one, h2, h3, hne, if_false, if_true]

/-- What may stand behind a position. -/
structure Fine (C : Cls) (r : List Nat) : Prop where
  id : hd (idc C) r = false
  dg : hd C.digit r = false
  no : ∀ c, c = 91 ∨ c = 46 ∨ c = 43 → hd (fun x => x == c) (skipS C r) = false

theorem pIs_hd (hC : C.Ok) (is : List IE) {r : List Nat} (hr : Fine C r) : hd (idc C) (pIs D is ++ r) = false ∧ hd C.digit (pIs D is ++ r) = false ∧ ∀ c, c = 91 ∨ c = 46 → hd (fun x => x == c) (skipS C (pIs D is ++ r)) = false := by
  have k43 := sym hC (c := 43) (by simp)
  have ks := sp hC
  cases is with
  | nil => exact ⟨hr.id, hr.dg, fun c hc => hr.no c (by omega)⟩
  | cons i is =>
    refine ⟨ks.2.2.2, ks.2.1, fun c hc => ?_⟩
    show hd _ (skipS C (32 :: 43 :: _)) = false
    rw [skip_sp hC, skip_no k43.2.2.1]
    rcases hc with rfl | rfl <;> rfl

theorem adds_rt (hC : C.Ok) (hD : DOk D) (f : Nat) {r : List Nat} (hr : Fine C r) : ∀ (is : List IE) (k : Nat), (∀ b ∈ is, WI C G b) → (pIs D is ++ r).length < k → (pIs D is ++ r).length < f → adds C f k (skipS C (pIs D is ++ r)) = some (is, skipS C r) := by
  have k43 := sym hC (c := 43) (by simp)
  intro is
  induction is with
  | nil =>
    intro k _ hk _
    obtain ⟨k, rfl⟩ : ∃ g, k = g + 1 := ⟨k - 1, by omega⟩
    show adds C f (k + 1) (skipS C r) = _
    rw [adds, eat_no (t := []) (hr.no 43 (by simp))]
  | cons i is ih =>
    intro k hw hk hf
    obtain ⟨k, rfl⟩ : ∃ g, k = g + 1 := ⟨k - 1, by omega⟩
    have wi := hw i (List.mem_cons_self ..)
    have e : pIs D (i :: is) ++ r = 32 :: 43 :: 32 :: (pIE D i ++ (pIs D is ++ r)) := by simp [pIs]
    rw [e] at hk hf ⊢
    simp only [List.length_cons, List.length_append] at hk hf
    have h1 := iat_rt hC hD i f (pIs D is ++ r) wi (pIs_hd hC is hr).2.1 (by simp only [List.length_append]; omega)
    have h2 := ih k (fun b hb => hw b (List.mem_cons_of_mem _ hb)) (by simp only [List.length_append]; omega) (by simp only [List.length_append]; omega)
    rw [skip_sp hC, skip_no k43.2.2.1, adds, eat_one]
    simp only [skip_sp hC, pIE_skip hC hD wi, h1, Option.bind_some, h2]

theorem psx_rt (hC : C.Ok) (hD : DOk D) (s : PS) (f : Nat) {r : List Nat} (hs : WS C G s) (hr : Fine C r) (hf : (pPS D s ++ r).length < f) : psx C f (pPS D s ++ r) = some (s, skipS C r) := by
  have e : pPS D s ++ r = pPA D s.a ++ (pIs D s.is ++ r) := by simp [pPS]
  rw [e] at hf ⊢
  obtain ⟨q1, _, q3⟩ := pIs_hd (D := D) hC s.is hr
  have h1 := pat_rt hC hD s.a f (pIs D s.is ++ r) hs.a q1 (q3 91 (by simp)) (q3 46 (by simp)) hf
  simp only [List.length_append] at hf
  have h2 := adds_rt hC hD f hr s.is f hs.is (by simp only [List.length_append]; omega) (by simp only [List.length_append]; omega)
  unfold psx
  simp only [h1, Option.bind_some, h2]

theorem pPSs_fin (hC : C.Ok) (ss : List PS) : Fine C (pPSs D ss) := by
  have k124 := sym hC (c := 124) (by simp)
  have ks := sp hC
  cases ss with
  | nil => exact ⟨rfl, rfl, fun c _ => rfl⟩
  | cons s ss =>
    refine ⟨ks.2.2.2, ks.2.1, fun c hc => ?_⟩
    show hd _ (skipS C (32 :: 124 :: _)) = false
    rw [skip_sp hC, skip_no k124.2.2.1]
    rcases hc with rfl | rfl | rfl <;> rfl

theorem alts_rt (hC : C.Ok) (hD : DOk D) (f : Nat) : ∀ (ss : List PS) (k : Nat), (∀ b ∈ ss, WS C G b) → (pPSs D ss).length < k → (pPSs D ss).length < f → alts C f k (skipS C (pPSs D ss)) = some (ss, []) := by
  have k124 := sym hC (c := 124) (by simp)
  intro ss
  induction ss with
  | nil =>
    intro k _ hk _
    obtain ⟨k, rfl⟩ : ∃ g, k = g + 1 := ⟨k - 1, by omega⟩
    rfl
  | cons s ss ih =>
    intro k hw hk hf
    obtain ⟨k, rfl⟩ : ∃ g, k = g + 1 := ⟨k - 1, by omega⟩
    have ws := hw s (List.mem_cons_self ..)
    have e : pPSs D (s :: ss) = 32 :: 124 :: 124 :: 32 :: (pPS D s ++ pPSs D ss) := by simp [pPSs]
    rw [e] at hk hf ⊢
    simp only [List.length_cons, List.length_append] at hk hf
    have h1 := psx_rt hC hD s f ws (pPSs_fin (D := D) hC ss) (by simp only [List.length_append]; omega)
    have h2 := ih k (fun b hb => hw b (List.mem_cons_of_mem _ hb)) (by omega) (by omega)
    have h3 : skipS C (pPS D s ++ pPSs D ss) = pPS D s ++ pPSs D ss := by
      have e : pPS D s ++ pPSs D ss = pPA D s.a ++ (pIs D s.is ++ pPSs D ss) := by simp [pPS]
      rw [e]; exact pPA_skip hC ws.a _
    rw [skip_sp hC, skip_no k124.2.2.1, alts, eat_two]
    simp only [skip_sp hC, h3, h1, Option.bind_some, h2]

/-- What is written is read as the same. -/
theorem parse_print (hC : C.Ok) (hD : DOk D) (e : PC) (he : WC C G e) : parse C (print D e) = some e := by
  have h1 := psx_rt hC hD e.s ((print D e).length + 1) he.s (pPSs_fin (D := D) hC e.ss) (Nat.lt_succ_self _)
  have h2 := alts_rt hC hD ((print D e).length + 1) e.ss ((print D e).length + 1) he.ss (by unfold print; rw [List.length_append]; omega) (by unfold print; rw [List.length_append]; omega)
  have h3 : skipS C (print D e) = print D e := by
    have e1 : print D e = pPA D e.s.a ++ (pIs D e.s.is ++ pPSs D e.ss) := by simp [print, pPS]
    rw [e1]; exact pPA_skip hC he.s.a _
  have h1 : psx C ((print D e).length + 1) (print D e) = some (e.s, skipS C (pPSs D e.ss)) := h1
  unfold parse pcx
  rw [h3]
  simp only [h1, Option.bind_some, h2, List.isEmpty_nil, if_true]

end Go.Proofs.YtfhnjgoipajiaaaDoor.pl
