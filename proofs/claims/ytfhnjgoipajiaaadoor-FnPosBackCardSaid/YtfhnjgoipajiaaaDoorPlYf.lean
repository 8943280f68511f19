/-
  posOf at every position that is read: it gives the position as plain data. No statement of the seat is proved here.
-/
import Derived.Test.YtfhnjgoipajiaaaDoorPlYb
import Derived.Test.YtfhnjgoipajiaaaDoorPlYc
import Derived.Test.YtfhnjgoipajiaaaDoorPlYe
namespace Go.Proofs.YtfhnjgoipajiaaaDoor.pl
open Go.RowKit Go.Proofs.YtfhnjgoipajiaaaDoor.gen

/-- posOf gives t at v, now and later. -/
def PosOk (w : World) (v : Value) (t : PT) : Prop := (∃ ty p, v = .iface ty p) ∧ ∀ W, Below w.heap.size w W → Calls Tryd.prog 9 #[v] W (PosRes t W)
theorem PosOk.on {w W : World} {v : Value} {t : PT} (h : PosOk w v t) (hb : Below w.heap.size w W) : PosOk W v t :=
  ⟨h.1, fun W' hb' => h.2 W' (hb.trans (hb'.mono hb.size))⟩

theorem var_pos {w : World} {pb : Nat} {u : Value} {s : List Nat} (h : VarAt w pb u s) : PosOk w (.iface 50 u) (ptVar s) := by
  obtain ⟨b, rfl, _, hc⟩ := h
  exact ⟨⟨_, _, rfl⟩, fun W hb => posOf_var b s W (moved hc hb)⟩

theorem ie_pos : ∀ (i : IE) (v : Value) (w : World) (pb : Nat), IEAt w pb i v → PosOk w v (ptIE i) := by
  intro i
  induction i with
  | int n =>
    rintro v w pb ⟨b, rfl, _, hc⟩
    exact ⟨⟨_, _, rfl⟩, fun W hb => posOf_IntLiteral b n W (moved hc hb)⟩
  | len s =>
    rintro v w pb ⟨b, u, rfl, _, hc, hu⟩
    exact ⟨⟨_, _, rfl⟩, fun W hb => posOf_Len b _ (ptVar s) W (moved hc hb) ((var_pos hu).on hb).2⟩
  | ite c t e iht ihe =>
    rintro v w pb ⟨b, u, v1, v2, rfl, _, hc, hu, h1, h2⟩
    refine ⟨⟨_, _, rfl⟩, fun W hb => ?_⟩
    have a0 := (var_pos hu).on hb
    have a1 := (iht _ _ _ h1).on hb
    have a2 := (ihe _ _ _ h2).on hb
    exact posOf_IfThenElse b _ _ _ (ptVar c) (ptIE t) (ptIE e) W (moved hc hb) a0.1 a0.2 a1.1 a1.2 a2.1 a2.2

theorem na_pos (a : NA) (v : Value) (w : World) (pb : Nat) (h : NAAt w pb a v) : PosOk w v (ptNA a) := by
  cases a with
  | var s => obtain ⟨u, rfl, hu⟩ := h; exact var_pos hu
  | last s =>
    obtain ⟨b, u, rfl, _, hc, hu⟩ := h
    exact ⟨⟨_, _, rfl⟩, fun W hb => posOf_NodeSliceLast b _ (ptVar s) W (moved hc hb) ((var_pos hu).on hb).2⟩
  | idx s i =>
    obtain ⟨b, u, vi, rfl, _, hc, hu, hi⟩ := h
    refine ⟨⟨_, _, rfl⟩, fun W hb => ?_⟩
    have a0 := (var_pos hu).on hb
    have a1 := (ie_pos i _ _ _ hi).on hb
    exact posOf_NodeSliceIndex b _ _ (ptVar s) (ptIE i) W (moved hc hb) a0.1 a0.2 a1.1 a1.2

/-- The parts of a choice. -/
theorem lat_pos {α : Type} {rep : World → Nat → Value → α → Prop} {T : TypeId} {W : World} {pb : Nat} {vl : Value} {l : List α} (f : α → PT) (h : LAt rep T W pb vl l) (h0 : 0 < l.length)
    (hp : ∀ v a, a ∈ l → rep W pb v a → PosOk W v (f a)) :
    ∃ g cap, vl = .slice (some ⟨g, 0, none⟩) l.length cap ∧ ∀ W', Below W.heap.size W W' → ∀ (k : Nat) t, (l.map f)[k]? = some t → ∃ ty p, W'.cell? ⟨g, k, none⟩ = some (.iface ty p) ∧ ∀ W2, Below W'.heap.size W' W2 → Calls Tryd.prog 9 #[.iface ty p] W2 (PosRes t W2) := by
  obtain ⟨ys, rfl, hO, hr, _⟩ := h
  rw [List.length_map] at h0 ⊢
  obtain ⟨g, cap, rfl⟩ : ∃ g cap, vl = .slice (some ⟨g, 0, none⟩) ys.length cap := by
    rcases hO.2 with ⟨_, h9⟩ | ⟨g, cap, cur, h1, _⟩
    · omega
    · exact ⟨g, cap, h1⟩
  refine ⟨g, cap, rfl, fun W' hb k t hk => ?_⟩
  rw [List.map_map, List.getElem?_map] at hk
  cases hy : ys[k]? with
  | none => rw [hy] at hk; cases hk
  | some z =>
    rw [hy] at hk
    have hk : f z.2 = t := by simpa using hk
    subst hk
    have hm := List.mem_of_getElem? hy
    have hlt : k < ys.length := by
      rcases Nat.lt_or_ge k ys.length with h' | h'
      · exact h'
      · rw [List.getElem?_eq_none h'] at hy; cases hy
    have hc : W.cell? ⟨g, k, none⟩ = some z.1 := by
      rw [hO.cellAt k (by omega), List.getElem?_map, hy]; rfl
    obtain ⟨⟨ty, p, e⟩, hcall⟩ := (hp _ _ (List.mem_map_of_mem hm) (hr z hm)).on hb
    rw [e] at hc hcall
    exact ⟨ty, p, (hb.cell (World.block_lt_of_cell? _ _ hc)).trans hc, hcall⟩

theorem zNA_pos (a : NA) : 1 ≤ zNA a := by cases a <;> simp only [zNA] <;> omega
theorem zNAs_len : ∀ (l : List NA), l.length ≤ zNAs l
  | [] => Nat.le_refl _
  | a :: r => by have h1 := zNAs_len r; have h2 := zNA_pos a; simp only [zNAs, List.length_cons]; omega
theorem zNE_pos (n : NE) : 1 ≤ zNE n := by
  cases n with
  | atom a => exact zNA_pos a
  | choice a az => simp only [zNE]; omega
theorem zPA_pos (a : PA) : 1 ≤ zPA a := by cases a <;> simp only [zPA] <;> omega
theorem zPSs_len : ∀ (l : List PS), l.length ≤ zPSs l
  | [] => Nat.le_refl _
  | s :: r => by have h1 := zPSs_len r; have h2 := zPA_pos s.a; simp only [zPSs, zPS, List.length_cons]; omega

theorem ne_pos (n : NE) (v : Value) (w : World) (pb : Nat) (h : NEAt w pb n v) (hz : zNE n ≤ 1099511627776) : PosOk w v (ptNE n) := by
  cases n with
  | atom a => exact na_pos a v w pb h
  | choice a az =>
    obtain ⟨b, vl, rfl, _, hc, hL⟩ := h
    have hl : (a :: az).length ≤ 1099511627776 := by
      have h1 := zNAs_len az
      have h2 := zNA_pos a
      simp only [zNE] at hz
      simp only [List.length_cons]; omega
    obtain ⟨g, cap, rfl, hx⟩ := lat_pos ptNA hL (by simp) (fun v c _ hr => na_pos c v w pb hr)
    exact ⟨⟨_, _, rfl⟩, fun W hb => posOf_NodeChoice b g _ cap ((a :: az).map ptNA) W (moved hc hb) (by simp) (by simp) hl (hx W hb)⟩

theorem pa_pos (a : PA) (v : Value) (w : World) (pb : Nat) (h : PAAt w pb a v) (hz : zPA a ≤ 1099511627776) : PosOk w v (ptPA a) := by
  cases a with
  | var s => obtain ⟨u, rfl, hu⟩ := h; exact var_pos hu
  | pos n =>
    obtain ⟨b, vn, rfl, _, hc, hn⟩ := h
    simp only [zPA] at hz
    exact ⟨⟨_, _, rfl⟩, fun W hb => posOf_pos b _ (ptNE n) W (moved hc hb) ((ne_pos n _ _ _ hn (by omega)).on hb).2⟩
  | end_ n =>
    obtain ⟨b, vn, rfl, _, hc, hn⟩ := h
    simp only [zPA] at hz
    exact ⟨⟨_, _, rfl⟩, fun W hb => posOf_NodeEnd b _ (ptNE n) W (moved hc hb) ((ne_pos n _ _ _ hn (by omega)).on hb).2⟩

theorem ad_pos (a : PA) (hz : zPA a ≤ 1099511627776) : ∀ (r : List IE) (v : Value) (w : World) (pb : Nat), AddAt w pb a r v → PosOk w v (ptAd a r) := by
  intro r
  induction r with
  | nil => intro v w pb h; exact pa_pos a v w pb h hz
  | cons i r ih =>
    rintro v w pb ⟨b, v0, vi, rfl, _, hc, h0, hi⟩
    refine ⟨⟨_, _, rfl⟩, fun W hb => ?_⟩
    have a0 := (ih _ _ _ h0).on hb
    have a1 := (ie_pos i _ _ _ hi).on hb
    exact posOf_PosAdd b _ _ (ptAd a r) (ptIE i) W (moved hc hb) a0.1 a0.2 a1.1 a1.2

theorem ps_pos (s : PS) (v : Value) (w : World) (pb : Nat) (h : repS w pb v s) (hz : zPS s ≤ 1099511627776) : PosOk w v (ptPS s) :=
  ad_pos s.a (by unfold zPS at hz; omega) _ v w pb h

theorem zPSs_mem : ∀ (l : List PS) (s : PS), s ∈ l → zPS s ≤ zPSs l
  | [], _, h => by cases h
  | a :: r, s, h => by
    simp only [zPSs]
    rcases List.mem_cons.1 h with rfl | h
    · omega
    · have := zPSs_mem r s h; omega

/-- Whatever is read: posOf gives it as plain data. -/
theorem pc_pos (e : PC) (v : Value) (w : World) (pb : Nat) (h : PCAt w pb e v) (hz : zPC e ≤ 1099511627776) : PosOk w v (ptPC e) := by
  unfold zPC at hz
  unfold ptPC
  rcases h with ⟨hs, h⟩ | ⟨hs, b, vl, rfl, _, hc, hL⟩
  · rw [if_pos hs]
    exact ps_pos e.s v w pb h (by omega)
  · rw [if_neg hs]
    have hl : (e.s :: e.ss).length ≤ 1099511627776 := by
      have h1 := zPSs_len e.ss
      simp only [List.length_cons]; omega
    obtain ⟨g, cap, rfl, hx⟩ := lat_pos ptPS hL (by simp) (fun v c hc hr => ps_pos c v w pb hr (by
      rcases List.mem_cons.1 hc with rfl | hc
      · omega
      · have := zPSs_mem e.ss c hc; omega))
    exact ⟨⟨_, _, rfl⟩, fun W hb => posOf_PosChoice b g _ cap ((e.s :: e.ss).map ptPS) W (moved hc hb) (by simp) (by simp) hl (hx W hb)⟩

end Go.Proofs.YtfhnjgoipajiaaaDoor.pl
