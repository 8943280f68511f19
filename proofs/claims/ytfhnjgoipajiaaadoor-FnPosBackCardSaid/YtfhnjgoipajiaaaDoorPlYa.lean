/-
  posOf at the leaves. No statement of the seat is proved here.
-/
import Derived.Test.YtfhnjgoipajiaaaDoorPlZ
namespace Go.Proofs.YtfhnjgoipajiaaaDoor.pl
open Go.RowKit Go.Proofs.YtfhnjgoipajiaaaDoor.gen

/-- Rows laid out. -/
def prow (p : PT × Value) : List Value := [.string (B p.1.kind), .string (B p.1.name), .int .i64 (p.1.n : Int), p.2]
def prows (l : List (PT × Value)) : List Value := l.flatMap prow
theorem prows_at : ∀ (l : List (PT × Value)) (k : Nat) (p : PT × Value), l[k]? = some p → ∀ j, j < 4 → (prows l)[k * 4 + j]? = (prow p)[j]? := by
  intro l
  induction l with
  | nil => intro k p h; simp at h
  | cons a b ih =>
    intro k p h j hj
    have e : prows (a :: b) = prow a ++ prows b := rfl
    have e4 : (prow a).length = 4 := rfl
    cases k with
    | zero =>
      simp at h; subst h
      rw [e, List.getElem?_append_left (by omega), Nat.zero_mul, Nat.zero_add]
    | succ k =>
      rw [e, List.getElem?_append_right (by omega), e4, show (k + 1) * 4 + j - 4 = k * 4 + j from by omega]
      exact ih k p (by simpa using h) j hj

/-- A row that has just been made. -/
theorem ArgsAt.lit {W : World} {ok : Nat → Prop} {T : TypeId} (ps : List (PT × Value)) (hl : ps.length ≤ 1099511627776) (hok : ok W.heap.size) (ha : ∀ p ∈ ps, ArgsAt W ok p.2 p.1.args) (o : Obj) (ho : o = .cells (prows ps).toArray T) :
    ArgsAt (W.alloc o) ok (.slice (some ⟨W.heap.size, 0, none⟩) ps.length ps.length) (ps.map (·.1)) := by
  have hg : (W.alloc o).heap[W.heap.size]? = some (.cells (prows ps).toArray T (0, 0)) := by rw [heap_alloc_new, ho]
  have hb : Below W.heap.size W (W.alloc o) := (Below.refl _ _).alloc (Nat.le_refl _) _
  have hlen : ps.length = (ps.map (·.1)).length := by simp
  have get : ∀ (k : Nat) t, (ps.map (·.1))[k]? = some t → ∃ p, ps[k]? = some p ∧ p.1 = t := by
    intro k t hk
    rw [List.getElem?_map] at hk
    cases hp : ps[k]? with
    | none => rw [hp] at hk; cases hk
    | some p => rw [hp] at hk; exact ⟨p, rfl, by simpa using hk⟩
  have h1 : ∀ (k : Nat) t, (ps.map (·.1))[k]? = some t → (W.alloc o).cell? ⟨W.heap.size, k * 4, none⟩ = some (.string (B t.kind)) ∧ (W.alloc o).cell? ⟨W.heap.size, k * 4 + 1, none⟩ = some (.string (B t.name)) ∧ (W.alloc o).cell? ⟨W.heap.size, k * 4 + 2, none⟩ = some (.int .i64 (t.n : Int)) ∧ (W.alloc o).cell? ⟨W.heap.size, k * 4 + 3, none⟩ = some ((ps[k]?.map (·.2)).getD .nilIface) := by
    intro k t hk
    obtain ⟨p, hp, rfl⟩ := get k t hk
    have hc : ∀ j, j < 4 → (W.alloc o).cell? ⟨W.heap.size, k * 4 + j, none⟩ = (prow p)[j]? := fun j hj => by
      have h1 := prows_at ps k p hp j hj
      have : (W.alloc o).cell? ⟨W.heap.size, k * 4 + j, none⟩ = (prows ps).toArray[k * 4 + j]? := block_cell hg (k * 4 + j)
      rw [this, List.getElem?_toArray, h1]
    have h0 := hc 0 (by omega)
    rw [Nat.add_zero] at h0
    have h3 := hc 3 (by omega)
    rw [hp]
    exact ⟨h0, hc 1 (by omega), hc 2 (by omega), h3⟩
  have h2 : ∀ (k : Nat) t, (ps.map (·.1))[k]? = some t → ArgsAt (W.alloc o) ok ((ps[k]?.map (·.2)).getD .nilIface) t.args := by
    intro k t hk
    obtain ⟨p, hp, rfl⟩ := get k t hk
    rw [hp]
    exact (ha p (List.mem_of_getElem? hp)).on hb
  have h3 := ArgsAt.row (w := W.alloc o) (ok := ok) W.heap.size ps.length (ps.map (·.1)) (fun k => (ps[k]?.map (·.2)).getD .nilIface) hok (block_lt hg) (by rw [← hlen]; exact hl) h1 h2
  rw [← hlen] at h3
  exact h3

theorem tp_var_var (u : Value) (w : World) : (Instr.typeAssert (.iface 50 u) 49 50 true).run Tryd.prog w = .ok (.tuple #[u, .bool true]) w := by kernel_rfl

set_option maxRecDepth 100000 in
theorem posOf_var (b : Nat) (v : List Nat) (w : World) (h : w.heap[b]? = some (.cells #[.string (B (enc v))] 52 (0, 0))) : Calls Tryd.prog 9 #[.iface 50 (.pointer (some ⟨b, 0, none⟩))] w (PosRes (ptVar v) w) := by
  have hta := tp_var_var
  have c0 : w.cell? ⟨b, 0, none⟩ = some (.string (B (enc v))) := block_cell h 0
  have hbl := block_lt h
  have HR : Hid (∀ w', Below w.heap.size w w' → PosRes (ptVar v) w (.returned (.agg #[.string ⟨#[118, 97, 114]⟩, .string (B (enc v)), .int .i64 0, .slice none 0 0])) w') := fun w' hb => ⟨.slice none 0 0, rfl, .nil, hb⟩
  clear h
  go_enter Tryd.func9, Tryd.ntmps9
  go_wp2_with fail
  have y0 : (w.alloc (.cells #[.string ⟨#[118, 97, 114]⟩, .string (B (enc v)), .int .i64 0, .slice none 0 0] 24)).cell? ⟨w.heap.size, 0, none⟩ = some (.string ⟨#[118, 97, 114]⟩) := block_cell (heap_alloc_new w _) 0
  have y1 : (w.alloc (.cells #[.string ⟨#[118, 97, 114]⟩, .string (B (enc v)), .int .i64 0, .slice none 0 0] 24)).cell? ⟨w.heap.size, 1, none⟩ = some (.string (B (enc v))) := block_cell (heap_alloc_new w _) 1
  have y2 : (w.alloc (.cells #[.string ⟨#[118, 97, 114]⟩, .string (B (enc v)), .int .i64 0, .slice none 0 0] 24)).cell? ⟨w.heap.size, 2, none⟩ = some (.int .i64 0) := block_cell (heap_alloc_new w _) 2
  have y3 : (w.alloc (.cells #[.string ⟨#[118, 97, 114]⟩, .string (B (enc v)), .int .i64 0, .slice none 0 0] 24)).cell? ⟨w.heap.size, 3, none⟩ = some (.slice none 0 0) := block_cell (heap_alloc_new w _) 3
  have hb : Below w.heap.size w (w.alloc (.cells #[.string ⟨#[118, 97, 114]⟩, .string (B (enc v)), .int .i64 0, .slice none 0 0] 24)) := (Below.refl _ _).alloc (Nat.le_refl _) _
  generalize w.alloc (.cells #[.string ⟨#[118, 97, 114]⟩, .string (B (enc v)), .int .i64 0, .slice none 0 0] 24) = W at *
  exact bodyPost_ret (v := .agg #[.string ⟨#[118, 97, 114]⟩, .string (B (enc v)), .int .i64 0, .slice none 0 0]) (by simp [results, Tryd.results9, go_sem, y0, y1, y2, y3]) rfl (HR.out _ hb)

theorem put4 {w : World} {g : Nat} {o0 o1 o2 o3 : Value} {T : TypeId} (h : w.heap[g]? = some (.cells #[o0, o1, o2, o3] T (0, 0))) (v0 v1 v2 v3 : Value) :
    ((((w.setCell ⟨g, 0, none⟩ v0).setCell ⟨g, 1, none⟩ v1).setCell ⟨g, 2, none⟩ v2).setCell ⟨g, 3, none⟩ v3).heap[g]? = some (.cells #[v0, v1, v2, v3] T (0, 0)) ∧ Frm w ((((w.setCell ⟨g, 0, none⟩ v0).setCell ⟨g, 1, none⟩ v1).setCell ⟨g, 2, none⟩ v2).setCell ⟨g, 3, none⟩ v3) [g] ∧ ((((w.setCell ⟨g, 0, none⟩ v0).setCell ⟨g, 1, none⟩ v1).setCell ⟨g, 2, none⟩ v2).setCell ⟨g, 3, none⟩ v3).heap.size = w.heap.size :=
  ⟨block_set (i := 3) (block_set (i := 2) (block_set (i := 1) (block_set (i := 0) h v0) v1) v2) v3, ((((Frm.refl w [g]).setCell ⟨g, 0, none⟩ v0 (.inl (by simp))).setCell ⟨g, 1, none⟩ v1 (.inl (by simp))).setCell ⟨g, 2, none⟩ v2 (.inl (by simp))).setCell ⟨g, 3, none⟩ v3 (.inl (by simp)), by simp⟩

theorem tp_pos (u : Value) (w : World) : (Instr.typeAssert (.iface 53 u) 49 50 true).run Tryd.prog w = .ok (.tuple #[.pointer none, .bool false]) w := by kernel_rfl
theorem tp_pos_pos (u : Value) (w : World) : (Instr.typeAssert (.iface 53 u) 49 53 true).run Tryd.prog w = .ok (.tuple #[u, .bool true]) w := by kernel_rfl

set_option maxRecDepth 100000 in
theorem posOf_pos (b : Nat) (vn : Value) (t : PT) (w : World) (h : w.heap[b]? = some (.cells #[vn] 57 (0, 0))) (hn : ∀ W, Below w.heap.size w W → Calls Tryd.prog 9 #[vn] W (PosRes t W)) : Calls Tryd.prog 9 #[.iface 53 (.pointer (some ⟨b, 0, none⟩))] w (PosRes (.mk [112, 111, 115] [] 0 [t]) w) := by
  have hta := tp_pos
  have hta2 := tp_pos_pos
  have c0 : w.cell? ⟨b, 0, none⟩ = some vn := block_cell h 0
  have hbl := block_lt h
  have HN := Lib.hid hn
  have hW0 : (w.alloc (.cells #[.string ⟨#[]⟩, .string ⟨#[]⟩, .int .i64 0, .slice none 0 0] 24)).heap[w.heap.size]? = some (.cells #[.string ⟨#[]⟩, .string ⟨#[]⟩, .int .i64 0, .slice none 0 0] 24 (0, 0)) := heap_alloc_new w _
  have hb0 : Below w.heap.size w (w.alloc (.cells #[.string ⟨#[]⟩, .string ⟨#[]⟩, .int .i64 0, .slice none 0 0] 24)) := (Below.refl _ _).alloc (Nat.le_refl _) _
  have hsz : (w.alloc (.cells #[.string ⟨#[]⟩, .string ⟨#[]⟩, .int .i64 0, .slice none 0 0] 24)).heap.size = w.heap.size + 1 := by show (w.heap.push _).size = _; rw [Array.size_push]
  have HW0 := Lib.hid hW0
  have HB0 := Lib.hid hb0
  have HSz := Lib.hid hsz
  clear h hn hW0 hb0 hsz
  go_enter Tryd.func9, Tryd.ntmps9
  go_wp2_with fail
  refine (HN.out _ HB0.out).mono ?_
  rintro e w1 ⟨av, rfl, hA, hb1⟩
  obtain ⟨a, c, rfl⟩ := hA.shape
  obtain ⟨l, hl⟩ : ∃ l, t.args.length = l := ⟨_, rfl⟩
  rw [hl] at hA ⊢
  unfold PTVal
  have hW1 := (hb1.block _ (block_lt HW0.out)).trans HW0.out
  have x0 : w1.cell? ⟨w.heap.size, 0, none⟩ = some (.string ⟨#[]⟩) := block_cell hW1 0
  have x1 : w1.cell? ⟨w.heap.size, 1, none⟩ = some (.string ⟨#[]⟩) := block_cell hW1 1
  have x2 : w1.cell? ⟨w.heap.size, 2, none⟩ = some (.int .i64 0) := block_cell hW1 2
  have x3 : w1.cell? ⟨w.heap.size, 3, none⟩ = some (.slice none 0 0) := block_cell hW1 3
  have z0 : w1.frozen? ⟨w.heap.size, 0, none⟩ = false := block_free hW1 0
  have z1 : w1.frozen? ⟨w.heap.size, 1, none⟩ = false := block_free hW1 1
  have z2 : w1.frozen? ⟨w.heap.size, 2, none⟩ = false := block_free hW1 2
  have z3 : w1.frozen? ⟨w.heap.size, 3, none⟩ = false := block_free hW1 3
  have hlt1 := block_lt hW1
  have HA := Lib.hid hA
  have HB1 := Lib.hid hb1
  have HW1 := Lib.hid hW1
  clear hA hb1 hW1 hl
  go_wp2_with fail
  obtain ⟨hP, hPf, hPz⟩ := put4 HW1.out (.string ⟨#[112, 111, 115]⟩) (.string ⟨#[]⟩) (.int .i64 0) (.slice (some ⟨w1.heap.size, 0, none⟩) 1 1)
  generalize (((w1.setCell ⟨w.heap.size, 0, none⟩ (.string ⟨#[112, 111, 115]⟩)).setCell ⟨w.heap.size, 1, none⟩ (.string ⟨#[]⟩)).setCell ⟨w.heap.size, 2, none⟩ (.int .i64 0)).setCell ⟨w.heap.size, 3, none⟩ (.slice (some ⟨w1.heap.size, 0, none⟩) 1 1) = W3 at hP hPf hPz ⊢
  have hA3 : ArgsAt W3 (fun g => w.heap.size ≤ g) (.slice a l c) t.args := (HA.out.frm hPf (by intro x hx; simp at hx; have := HSz.out; omega)).mono (fun g hg _ => by have := HSz.out; omega)
  have hL := ArgsAt.lit (W := W3) (ok := fun g => w.heap.size ≤ g) (T := 24) [(t, .slice a l c)] (by simp) (by show w.heap.size ≤ W3.heap.size; omega) (by intro p hp; simp at hp; subst hp; exact hA3) (.cells #[.string (B t.kind), .string (B t.name), .int .i64 (t.n : Int), .slice a l c] 24) rfl
  have hF : (W3.alloc (.cells #[.string (B t.kind), .string (B t.name), .int .i64 (t.n : Int), .slice a l c] 24)).heap[w.heap.size]? = some (.cells #[.string ⟨#[112, 111, 115]⟩, .string ⟨#[]⟩, .int .i64 0, .slice (some ⟨w1.heap.size, 0, none⟩) 1 1] 24 (0, 0)) := (Below.heap_alloc _ _ _ (block_lt hP)).trans hP
  have hB : Below w.heap.size w (W3.alloc (.cells #[.string (B t.kind), .string (B t.name), .int .i64 (t.n : Int), .slice a l c] 24)) := by
    have h1 := HB0.out.trans (HB1.out.mono HB0.out.size)
    have h2 : Below w.heap.size w W3 := ((Frm.ofBelow h1 []).trans hPf (fun x hx => by right; simp at hx; omega)).below
    exact h2.alloc h2.size _
  rw [hPz] at hL
  generalize W3.alloc (.cells #[.string (B t.kind), .string (B t.name), .int .i64 (t.n : Int), .slice a l c] 24) = F at hL hF hB ⊢
  have y0 : F.cell? ⟨w.heap.size, 0, none⟩ = some (.string ⟨#[112, 111, 115]⟩) := block_cell hF 0
  have y1 : F.cell? ⟨w.heap.size, 1, none⟩ = some (.string ⟨#[]⟩) := block_cell hF 1
  have y2 : F.cell? ⟨w.heap.size, 2, none⟩ = some (.int .i64 0) := block_cell hF 2
  have y3 : F.cell? ⟨w.heap.size, 3, none⟩ = some (.slice (some ⟨w1.heap.size, 0, none⟩) 1 1) := block_cell hF 3
  exact bodyPost_ret (v := .agg #[.string ⟨#[112, 111, 115]⟩, .string ⟨#[]⟩, .int .i64 0, .slice (some ⟨w1.heap.size, 0, none⟩) 1 1]) (by simp [results, Tryd.results9, go_sem, y0, y1, y2, y3]) rfl ⟨_, rfl, hL, hB⟩

end Go.Proofs.YtfhnjgoipajiaaaDoor.pl
