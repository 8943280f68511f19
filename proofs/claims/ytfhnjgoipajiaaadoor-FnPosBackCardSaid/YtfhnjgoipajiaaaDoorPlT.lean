/-
  Nodes and positions: the calls through the interfaces give the texts of the tree. No statement of the seat is proved here.
-/
import Derived.Test.YtfhnjgoipajiaaaDoorPlS
namespace Go.Proofs.YtfhnjgoipajiaaaDoor.pl
open Go.RowKit Go.Proofs.YtfhnjgoipajiaaaDoor.gen

theorem join_num (s : UInt8) (r : List UInt8) : ∀ (l : List (List UInt8)), l.length ≤ (Lib.join l (s :: r)).length + 1 := by
  have key : ∀ l : List (List UInt8), l.length ≤ (Lib.joinTail (s :: r) l).length := by
    intro l
    induction l with
    | nil => exact Nat.zero_le _
    | cons a l ih =>
      have e : Lib.joinTail (s :: r) (a :: l) = ((s :: r) ++ a) ++ Lib.joinTail (s :: r) l := by simp [Lib.joinTail]
      rw [e]
      simp only [List.length_append, List.length_cons]
      omega
  intro l
  cases l with
  | nil => exact Nat.zero_le _
  | cons a l =>
    rw [Lib.join_cons]
    have := key l
    simp only [List.length_append, List.length_cons]
    omega
theorem join_mem (sep : List UInt8) {l : List (List UInt8)} {t : List UInt8} (h : t ∈ l) : t.length ≤ (Lib.join l sep).length := by
  have key : ∀ l : List (List UInt8), t ∈ l → t.length ≤ (Lib.joinTail sep l).length := by
    intro l
    induction l with
    | nil => intro h; cases h
    | cons a l ih =>
      intro h
      have e : Lib.joinTail sep (a :: l) = (sep ++ a) ++ Lib.joinTail sep l := by simp [Lib.joinTail]
      rw [e]
      simp only [List.length_append]
      rcases List.mem_cons.1 h with rfl | h
      · omega
      · have := ih h; omega
  cases l with
  | nil => cases h
  | cons a l =>
    rw [Lib.join_cons, List.length_append]
    rcases List.mem_cons.1 h with rfl | h
    · omega
    · have := key l h; omega

theorem B_list (l : List UInt8) : (B l).data.toList = l := by unfold B; simp

/-- The parts of a choice. -/
theorem lat_xs {α : Type} {rep : World → Nat → Value → α → Prop} {T : TypeId} {W : World} {pb : Nat} {vl : Value} {l : List α} (u : α → List UInt8) (m : String) (args : List Value) (h : LAt rep T W pb vl l) (h0 : 0 < l.length)
    (hinv : ∀ v a, a ∈ l → rep W pb v a → Inv W v m args (B (u a))) :
    ∃ g cap, ∃ xs : List (Value × ByteArray), vl = .slice (some ⟨g, 0, none⟩) l.length cap ∧ xs.length = l.length ∧ xs.map (·.2.data.toList) = l.map u ∧ ∀ W', Below W.heap.size W W' → ∀ (k : Nat) y, xs[k]? = some y → W'.cell? ⟨g, k, none⟩ = some y.1 ∧ Inv W' y.1 m args y.2 := by
  obtain ⟨ys, rfl, hO, hr, _⟩ := h
  rw [List.length_map] at h0 ⊢
  obtain ⟨g, cap, rfl⟩ : ∃ g cap, vl = .slice (some ⟨g, 0, none⟩) ys.length cap := by
    rcases hO.2 with ⟨_, h9⟩ | ⟨g, cap, cur, h1, _⟩
    · omega
    · exact ⟨g, cap, h1⟩
  refine ⟨g, cap, ys.map fun y => (y.1, B (u y.2)), rfl, by simp, by simp [Function.comp_def, B_list], fun W' hb k y hk => ?_⟩
  rw [List.getElem?_map] at hk
  cases hy : ys[k]? with
  | none => rw [hy] at hk; cases hk
  | some z =>
    rw [hy] at hk
    have hk : (z.1, B (u z.2)) = y := by simpa using hk
    subst hk
    have hm := List.mem_of_getElem? hy
    have hlt : k < ys.length := by
      rcases Nat.lt_or_ge k ys.length with h' | h'
      · exact h'
      · rw [List.getElem?_eq_none h'] at hy; cases hy
    have hc : W.cell? ⟨g, k, none⟩ = some z.1 := by
      rw [hO.cellAt k (by omega), List.getElem?_map, hy]; rfl
    exact ⟨(hb.cell (World.block_lt_of_cell? _ _ hc)).trans hc, (hinv _ _ (List.mem_map_of_mem hm) (hr z hm)).on hb⟩

theorem na_unp (a : NA) (v : Value) (W : World) (pb : Nat) (h : NAAt W pb a v) (hC : Ctx W) (hw : WA cls GR a) (hl : (uNA a).length ≤ 1099511627776) : Inv W v "Unparse" [] (B (uNA a)) := by
  cases a with
  | var s => obtain ⟨u, rfl, hu⟩ := h; exact var_unp hu
  | last s =>
    obtain ⟨b, u, rfl, _, hc, hu⟩ := h
    unfold uNA at hl
    simp only [List.length_append] at hl
    exact inv_NodeSliceLast_Unparse fun W' hb => NodeSliceLast_Unparse_c b _ (B (enc s)) W' (by rw [B_size]; omega) (moved hc hb) ((var_unp hu).on hb)
  | idx s i =>
    obtain ⟨b, u, vi, rfl, _, hc, hu, hi⟩ := h
    unfold uNA at hl
    simp only [List.length_append] at hl
    exact inv_NodeSliceIndex_Unparse fun W' hb => NodeSliceIndex_Unparse_c b _ _ (B (enc s)) (B (uIE i)) W' (by rw [B_size]; omega) (by rw [B_size]; omega) (moved hc hb) ((var_unp hu).on hb) ((ie_unp i _ _ _ hi hC hw.2 (by omega)).on hb)
theorem na_go (x : List UInt8) (a : NA) (v : Value) (W : World) (pb : Nat) (h : NAAt W pb a v) (hC : Ctx W) (hw : WA cls GR a) (hl : x.length + (gNA x a).length ≤ 1099511627776) : Inv W v "NodeExprToGo" [.string (B x)] (B (gNA x a)) := by
  cases a with
  | var s => obtain ⟨u, rfl, hu⟩ := h; exact var_NodeExprToGo x (Nat.le_trans (Nat.le_add_left _ x.length) hl) hu
  | last s =>
    obtain ⟨b, u, rfl, _, hc, hu⟩ := h
    unfold gNA at hl
    simp only [List.length_append] at hl
    exact inv_NodeSliceLast_NodeExprToGo fun W' hb => NodeSliceLast_NodeExprToGo_c b _ (B x) (B _) W' (by rw [B_size]; simp only [List.length_append]; omega) (moved hc hb) ((var_NodeSliceExprToGo x (by simp only [List.length_append]; omega) hu).on hb)
  | idx s i =>
    obtain ⟨b, u, vi, rfl, _, hc, hu, hi⟩ := h
    unfold gNA at hl
    simp only [List.length_append] at hl
    exact inv_NodeSliceIndex_NodeExprToGo fun W' hb => NodeSliceIndex_NodeExprToGo_c b _ _ (B x) (B _) (B (gIE x i)) W' (by rw [B_size]; simp only [List.length_append]; omega) (by rw [B_size]; omega) (moved hc hb) ((var_NodeSliceExprToGo x (by simp only [List.length_append]; omega) hu).on hb) ((ie_go x i _ _ _ hi hC hw.2 (by omega)).on hb)

theorem ne_unp (n : NE) (v : Value) (W : World) (pb : Nat) (h : NEAt W pb n v) (hC : Ctx W) (hw : WE cls GR n) (hl : (uNE n).length ≤ 1099511627776) : Inv W v "Unparse" [] (B (uNE n)) := by
  cases n with
  | atom a => exact na_unp a v W pb h hC hw hl
  | choice a az =>
    obtain ⟨b, vl, rfl, _, hc, hL⟩ := h
    unfold uNE at hl
    simp only [List.length_append] at hl
    have hwm : ∀ c, c ∈ a :: az → WA cls GR c := fun c hc => by
      rcases List.mem_cons.1 hc with rfl | hc
      · exact hw.1
      · exact hw.2 c hc
    obtain ⟨g, cap, xs, rfl, h1, h2, h3⟩ := lat_xs uNA "Unparse" [] hL (by simp) (fun v c hc hr => na_unp c v W pb hr hC (hwm c hc) (by have := join_mem [32, 63, 63, 32] (List.mem_map_of_mem (f := uNA) hc); omega))
    have hj := join_num 32 [63, 63, 32] ((a :: az).map uNA)
    rw [List.length_map] at hj
    refine inv_NodeChoice_Unparse fun W' hb => ?_
    have := NodeChoice_Unparse_c b g _ cap xs W' h1 (by simp) (by omega) (moved hc hb) (h3 W' hb) (by rw [h2]; omega)
    rw [h2] at this
    exact this
theorem ne_go (x : List UInt8) (n : NE) (v : Value) (W : World) (pb : Nat) (h : NEAt W pb n v) (hC : Ctx W) (hw : WE cls GR n) (hl : x.length + (gNE x n).length ≤ 1099511627776) : Inv W v "NodeExprToGo" [.string (B x)] (B (gNE x n)) := by
  cases n with
  | atom a => exact na_go x a v W pb h hC hw hl
  | choice a az =>
    obtain ⟨b, vl, rfl, _, hc, hL⟩ := h
    unfold gNE at hl
    simp only [List.length_append] at hl
    have hwm : ∀ c, c ∈ a :: az → WA cls GR c := fun c hc => by
      rcases List.mem_cons.1 hc with rfl | hc
      · exact hw.1
      · exact hw.2 c hc
    obtain ⟨g, cap, xs, rfl, h1, h2, h3⟩ := lat_xs (gNA x) "NodeExprToGo" [.string (B x)] hL (by simp) (fun v c hc hr => na_go x c v W pb hr hC (hwm c hc) (by have := join_mem [44, 32] (List.mem_map_of_mem (f := gNA x) hc); omega))
    have hj := join_num 44 [32] ((a :: az).map (gNA x))
    rw [List.length_map] at hj
    refine inv_NodeChoice_NodeExprToGo fun W' hb => ?_
    have := NodeChoice_NodeExprToGo_c b g _ cap (B x) xs W' h1 (by simp) (by omega) (moved hc hb) (h3 W' hb) (by rw [h2]; omega)
    rw [h2] at this
    exact this

theorem pa_unp (a : PA) (v : Value) (W : World) (pb : Nat) (h : PAAt W pb a v) (hC : Ctx W) (hw : WP cls GR a) (hl : (uPA a).length ≤ 1099511627776) : Inv W v "Unparse" [] (B (uPA a)) := by
  cases a with
  | var s => obtain ⟨u, rfl, hu⟩ := h; exact var_unp hu
  | pos n =>
    obtain ⟨b, vn, rfl, _, hc, hn⟩ := h
    unfold uPA at hl
    simp only [List.length_append] at hl
    exact inv_NodePos_Unparse fun W' hb => NodePos_Unparse_c b _ (B (uNE n)) W' (by rw [B_size]; omega) (moved hc hb) ((ne_unp n _ _ _ hn hC hw (by omega)).on hb)
  | end_ n =>
    obtain ⟨b, vn, rfl, _, hc, hn⟩ := h
    unfold uPA at hl
    simp only [List.length_append] at hl
    exact inv_NodeEnd_Unparse fun W' hb => NodeEnd_Unparse_c b _ (B (uNE n)) W' (by rw [B_size]; omega) (moved hc hb) ((ne_unp n _ _ _ hn hC hw (by omega)).on hb)
theorem pa_go (x : List UInt8) (a : PA) (v : Value) (W : World) (pb : Nat) (h : PAAt W pb a v) (hC : Ctx W) (hw : WP cls GR a) (hl : x.length + (gPA x a).length ≤ 1099511627776) : Inv W v "PosExprToGo" [.string (B x)] (B (gPA x a)) := by
  cases a with
  | var s => obtain ⟨u, rfl, hu⟩ := h; exact var_PosExprToGo x (Nat.le_trans (Nat.le_add_left _ x.length) hl) hu
  | pos n =>
    obtain ⟨b, vn, rfl, _, hc, hn⟩ := h
    unfold gPA at hl
    simp only [List.length_append] at hl
    exact inv_NodePos_PosExprToGo fun W' hb => NodePos_PosExprToGo_c b _ (B x) (B (gNE x n)) W' (by rw [B_size]; omega) (moved hc hb) ((ne_go x n _ _ _ hn hC hw (by omega)).on hb)
  | end_ n =>
    obtain ⟨b, vn, rfl, _, hc, hn⟩ := h
    unfold gPA at hl
    simp only [List.length_append] at hl
    exact inv_NodeEnd_PosExprToGo fun W' hb => NodeEnd_PosExprToGo_c b _ (B x) (B (gNE x n)) W' (by rw [B_size]; omega) (moved hc hb) ((ne_go x n _ _ _ hn hC hw (by omega)).on hb)

theorem ad_unp (a : PA) : ∀ (r : List IE) (v : Value) (W : World) (pb : Nat), AddAt W pb a r v → Ctx W → WP cls GR a → (∀ i ∈ r, WI cls GR i) → (uAd a r).length ≤ 1099511627776 → Inv W v "Unparse" [] (B (uAd a r)) := by
  intro r
  induction r with
  | nil => intro v W pb h hC hw _ hl; exact pa_unp a v W pb h hC hw hl
  | cons i r ih =>
    rintro v W pb ⟨b, v0, vi, rfl, _, hc, h0, hi⟩ hC hw hr hl
    unfold uAd at hl
    simp only [List.length_append] at hl
    exact inv_PosAdd_Unparse fun W' hb => PosAdd_Unparse_c b _ _ (B (uAd a r)) (B (uIE i)) W' (by rw [B_size]; omega) (by rw [B_size]; omega) (moved hc hb) ((ih _ _ _ h0 hC hw (fun j hj => hr j (List.mem_cons_of_mem _ hj)) (by omega)).on hb) ((ie_unp i _ _ _ hi hC (hr i (List.mem_cons_self ..)) (by omega)).on hb)
theorem ad_go (x : List UInt8) (a : PA) : ∀ (r : List IE) (v : Value) (W : World) (pb : Nat), AddAt W pb a r v → Ctx W → WP cls GR a → (∀ i ∈ r, WI cls GR i) → x.length + (gAd x a r).length ≤ 1099511627776 → Inv W v "PosExprToGo" [.string (B x)] (B (gAd x a r)) := by
  intro r
  induction r with
  | nil => intro v W pb h hC hw _ hl; exact pa_go x a v W pb h hC hw hl
  | cons i r ih =>
    rintro v W pb ⟨b, v0, vi, rfl, _, hc, h0, hi⟩ hC hw hr hl
    unfold gAd at hl
    simp only [List.length_append] at hl
    exact inv_PosAdd_PosExprToGo fun W' hb => PosAdd_PosExprToGo_c b _ _ (B x) (B (gAd x a r)) (B (gIE x i)) W' (by rw [B_size]; omega) (by rw [B_size]; omega) (moved hc hb) ((ih _ _ _ h0 hC hw (fun j hj => hr j (List.mem_cons_of_mem _ hj)) (by omega)).on hb) ((ie_go x i _ _ _ hi hC (hr i (List.mem_cons_self ..)) (by omega)).on hb)

theorem ps_unp (s : PS) (v : Value) (W : World) (pb : Nat) (h : repS W pb v s) (hC : Ctx W) (hw : WS cls GR s) (hl : (uPS s).length ≤ 1099511627776) : Inv W v "Unparse" [] (B (uPS s)) :=
  ad_unp s.a _ v W pb h hC hw.a (fun i hi => hw.is i (List.mem_reverse.1 hi)) hl
theorem ps_go (x : List UInt8) (s : PS) (v : Value) (W : World) (pb : Nat) (h : repS W pb v s) (hC : Ctx W) (hw : WS cls GR s) (hl : x.length + (gPS x s).length ≤ 1099511627776) : Inv W v "PosExprToGo" [.string (B x)] (B (gPS x s)) :=
  ad_go x s.a _ v W pb h hC hw.a (fun i hi => hw.is i (List.mem_reverse.1 hi)) hl

theorem pc_unp (e : PC) (v : Value) (W : World) (pb : Nat) (h : PCAt W pb e v) (hC : Ctx W) (hw : WC cls GR e) (hl : (uPC e).length ≤ 1099511627776) : Inv W v "Unparse" [] (B (uPC e)) := by
  rcases h with ⟨hs, h⟩ | ⟨hs, b, vl, rfl, _, hc, hL⟩
  · unfold uPC at hl ⊢
    rw [if_pos hs] at hl ⊢
    exact ps_unp e.s v W pb h hC hw.s hl
  · unfold uPC at hl ⊢
    rw [if_neg hs] at hl ⊢
    have hwm : ∀ c, c ∈ e.s :: e.ss → WS cls GR c := fun c hc => by
      rcases List.mem_cons.1 hc with rfl | hc
      · exact hw.s
      · exact hw.ss c hc
    obtain ⟨g, cap, xs, rfl, h1, h2, h3⟩ := lat_xs uPS "Unparse" [] hL (by simp) (fun v c hc hr => ps_unp c v W pb hr hC (hwm c hc) (by have := join_mem [32, 124, 124, 32] (List.mem_map_of_mem (f := uPS) hc); omega))
    have hj := join_num 32 [124, 124, 32] ((e.s :: e.ss).map uPS)
    rw [List.length_map] at hj
    refine inv_PosChoice_Unparse fun W' hb => ?_
    have := PosChoice_Unparse_c b g _ cap xs W' h1 (by simp) (by omega) (moved hc hb) (h3 W' hb) (by rw [h2]; omega)
    rw [h2] at this
    exact this
theorem pc_go (x : List UInt8) (e : PC) (v : Value) (W : World) (pb : Nat) (h : PCAt W pb e v) (hC : Ctx W) (hw : WC cls GR e) (hl : x.length + (gPC x e).length ≤ 1099511627776) : Inv W v "PosExprToGo" [.string (B x)] (B (gPC x e)) := by
  rcases h with ⟨hs, h⟩ | ⟨hs, b, vl, rfl, _, hc, hL⟩
  · unfold gPC at hl ⊢
    rw [if_pos hs] at hl ⊢
    exact ps_go x e.s v W pb h hC hw.s hl
  · unfold gPC at hl ⊢
    rw [if_neg hs] at hl ⊢
    simp only [List.length_append] at hl
    have hwm : ∀ c, c ∈ e.s :: e.ss → WS cls GR c := fun c hc => by
      rcases List.mem_cons.1 hc with rfl | hc
      · exact hw.s
      · exact hw.ss c hc
    obtain ⟨g, cap, xs, rfl, h1, h2, h3⟩ := lat_xs (gPS x) "PosExprToGo" [.string (B x)] hL (by simp) (fun v c hc hr => ps_go x c v W pb hr hC (hwm c hc) (by have := join_mem [44, 32] (List.mem_map_of_mem (f := gPS x) hc); omega))
    have hj := join_num 44 [32] ((e.s :: e.ss).map (gPS x))
    rw [List.length_map] at hj
    refine inv_PosChoice_PosExprToGo fun W' hb => ?_
    have := PosChoice_PosExprToGo_c b g _ cap (B x) xs W' h1 (by simp) (by omega) (moved hc hb) (h3 W' hb) (by rw [h2]; omega)
    rw [h2] at this
    exact this

end Go.Proofs.YtfhnjgoipajiaaaDoor.pl
