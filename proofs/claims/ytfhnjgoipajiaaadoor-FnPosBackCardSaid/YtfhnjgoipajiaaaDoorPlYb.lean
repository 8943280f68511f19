/-
  posOf at the types with one part, and at integers. Printed by pos_gen.py. No statement of the seat is proved here.
-/
import Derived.Test.YtfhnjgoipajiaaaDoorPlYa
namespace Go.Proofs.YtfhnjgoipajiaaaDoor.pl
open Go.RowKit Go.Proofs.YtfhnjgoipajiaaaDoor.gen

theorem tq_NodeEnd_Var (u : Value) (w : World) : (Instr.typeAssert (.iface 58 u) 49 50 true).run Tryd.prog w = .ok (.tuple #[.pointer none, .bool false]) w := by kernel_rfl
theorem tq_NodeEnd_NodePos (u : Value) (w : World) : (Instr.typeAssert (.iface 58 u) 49 53 true).run Tryd.prog w = .ok (.tuple #[.pointer none, .bool false]) w := by kernel_rfl
theorem tq_NodeEnd_NodeEnd (u : Value) (w : World) : (Instr.typeAssert (.iface 58 u) 49 58 true).run Tryd.prog w = .ok (.tuple #[u, .bool true]) w := by kernel_rfl
set_option maxRecDepth 100000 in
theorem posOf_NodeEnd (b : Nat) (vn : Value) (t : PT) (w : World) (h : w.heap[b]? = some (.cells #[vn] 59 (0, 0))) (hn : ∀ W, Below w.heap.size w W → Calls Tryd.prog 9 #[vn] W (PosRes t W)) : Calls Tryd.prog 9 #[.iface 58 (.pointer (some ⟨b, 0, none⟩))] w (PosRes (.mk [101, 110, 100] [] 0 [t]) w) := by
  have hta0 := tq_NodeEnd_Var
  have hta1 := tq_NodeEnd_NodePos
  have hta2 := tq_NodeEnd_NodeEnd
  have c0 : w.cell? ⟨b, 0, none⟩ = some vn := block_cell h 0
  have hbl := block_lt h
  have HN := Lib.hid hn
  have hW0 : (w.alloc (.cells #[.string ⟨#[]⟩, .string ⟨#[]⟩, .int .i64 0, .slice none 0 0] 24)).heap[w.heap.size]? = some (.cells #[.string ⟨#[]⟩, .string ⟨#[]⟩, .int .i64 0, .slice none 0 0] 24 (0, 0)) := heap_alloc_new w _
  have hb0 : Below w.heap.size w (w.alloc (.cells #[.string ⟨#[]⟩, .string ⟨#[]⟩, .int .i64 0, .slice none 0 0] 24)) := (Below.refl _ _).alloc (Nat.le_refl _) _
  have hsz : (w.alloc (.cells #[.string ⟨#[]⟩, .string ⟨#[]⟩, .int .i64 0, .slice none 0 0] 24)).heap.size = w.heap.size + 1 := by show (w.heap.push _).size = _; rw [Array.size_push]
  have HW0 := Lib.hid hW0
  have HB0 := Lib.hid hb0
  have HSz := Lib.hid hsz
  clear h hn hW0 hb0 hsz
  go_enter Tryd.func9, Tryd.ntmps9
  go_wp2_with fail
  refine (HN.out _ HB0.out).mono ?_
  rintro e w1 ⟨av, rfl, hA, hb1⟩
  obtain ⟨a, c, rfl⟩ := hA.shape
  obtain ⟨l, hl⟩ : ∃ l, t.args.length = l := ⟨_, rfl⟩
  rw [hl] at hA ⊢
  unfold PTVal
  have hW1 := (hb1.block _ (block_lt HW0.out)).trans HW0.out
  have x0 : w1.cell? ⟨w.heap.size, 0, none⟩ = some (.string ⟨#[]⟩) := block_cell hW1 0
  have x1 : w1.cell? ⟨w.heap.size, 1, none⟩ = some (.string ⟨#[]⟩) := block_cell hW1 1
  have x2 : w1.cell? ⟨w.heap.size, 2, none⟩ = some (.int .i64 0) := block_cell hW1 2
  have x3 : w1.cell? ⟨w.heap.size, 3, none⟩ = some (.slice none 0 0) := block_cell hW1 3
  have z0 : w1.frozen? ⟨w.heap.size, 0, none⟩ = false := block_free hW1 0
  have z1 : w1.frozen? ⟨w.heap.size, 1, none⟩ = false := block_free hW1 1
  have z2 : w1.frozen? ⟨w.heap.size, 2, none⟩ = false := block_free hW1 2
  have z3 : w1.frozen? ⟨w.heap.size, 3, none⟩ = false := block_free hW1 3
  have hlt1 := block_lt hW1
  have HA := Lib.hid hA
  have HB1 := Lib.hid hb1
  have HW1 := Lib.hid hW1
  clear hA hb1 hW1 hl
  go_wp2_with fail
  obtain ⟨hP, hPf, hPz⟩ := put4 HW1.out (.string ⟨#[101, 110, 100]⟩) (.string ⟨#[]⟩) (.int .i64 0) (.slice (some ⟨w1.heap.size, 0, none⟩) 1 1)
  generalize (((w1.setCell ⟨w.heap.size, 0, none⟩ (.string ⟨#[101, 110, 100]⟩)).setCell ⟨w.heap.size, 1, none⟩ (.string ⟨#[]⟩)).setCell ⟨w.heap.size, 2, none⟩ (.int .i64 0)).setCell ⟨w.heap.size, 3, none⟩ (.slice (some ⟨w1.heap.size, 0, none⟩) 1 1) = W3 at hP hPf hPz ⊢
  have hA3 : ArgsAt W3 (fun g => w.heap.size ≤ g) (.slice a l c) t.args := (HA.out.frm hPf (by intro x hx; simp at hx; have := HSz.out; omega)).mono (fun g hg _ => by have := HSz.out; omega)
  have hL := ArgsAt.lit (W := W3) (ok := fun g => w.heap.size ≤ g) (T := 24) [(t, .slice a l c)] (by simp) (by show w.heap.size ≤ W3.heap.size; omega) (by intro p hp; simp at hp; subst hp; exact hA3) (.cells #[.string (B t.kind), .string (B t.name), .int .i64 (t.n : Int), .slice a l c] 24) rfl
  have hF : (W3.alloc (.cells #[.string (B t.kind), .string (B t.name), .int .i64 (t.n : Int), .slice a l c] 24)).heap[w.heap.size]? = some (.cells #[.string ⟨#[101, 110, 100]⟩, .string ⟨#[]⟩, .int .i64 0, .slice (some ⟨w1.heap.size, 0, none⟩) 1 1] 24 (0, 0)) := (Below.heap_alloc _ _ _ (block_lt hP)).trans hP
  have hB : Below w.heap.size w (W3.alloc (.cells #[.string (B t.kind), .string (B t.name), .int .i64 (t.n : Int), .slice a l c] 24)) := by
    have h1 := HB0.out.trans (HB1.out.mono HB0.out.size)
    have h2 : Below w.heap.size w W3 := ((Frm.ofBelow h1 []).trans hPf (fun x hx => by right; simp at hx; omega)).below
    exact h2.alloc h2.size _
  rw [hPz] at hL
  generalize W3.alloc (.cells #[.string (B t.kind), .string (B t.name), .int .i64 (t.n : Int), .slice a l c] 24) = F at hL hF hB ⊢
  have y0 : F.cell? ⟨w.heap.size, 0, none⟩ = some (.string ⟨#[101, 110, 100]⟩) := block_cell hF 0
  have y1 : F.cell? ⟨w.heap.size, 1, none⟩ = some (.string ⟨#[]⟩) := block_cell hF 1
  have y2 : F.cell? ⟨w.heap.size, 2, none⟩ = some (.int .i64 0) := block_cell hF 2
  have y3 : F.cell? ⟨w.heap.size, 3, none⟩ = some (.slice (some ⟨w1.heap.size, 0, none⟩) 1 1) := block_cell hF 3
  exact bodyPost_ret (v := .agg #[.string ⟨#[101, 110, 100]⟩, .string ⟨#[]⟩, .int .i64 0, .slice (some ⟨w1.heap.size, 0, none⟩) 1 1]) (by simp [results, Tryd.results9, go_sem, y0, y1, y2, y3]) rfl ⟨_, rfl, hL, hB⟩

theorem tq_NodeSliceLast_Var (u : Value) (w : World) : (Instr.typeAssert (.iface 78 u) 49 50 true).run Tryd.prog w = .ok (.tuple #[.pointer none, .bool false]) w := by kernel_rfl
theorem tq_NodeSliceLast_NodePos (u : Value) (w : World) : (Instr.typeAssert (.iface 78 u) 49 53 true).run Tryd.prog w = .ok (.tuple #[.pointer none, .bool false]) w := by kernel_rfl
theorem tq_NodeSliceLast_NodeEnd (u : Value) (w : World) : (Instr.typeAssert (.iface 78 u) 49 58 true).run Tryd.prog w = .ok (.tuple #[.pointer none, .bool false]) w := by kernel_rfl
theorem tq_NodeSliceLast_PosChoice (u : Value) (w : World) : (Instr.typeAssert (.iface 78 u) 49 60 true).run Tryd.prog w = .ok (.tuple #[.pointer none, .bool false]) w := by kernel_rfl
theorem tq_NodeSliceLast_NodeChoice (u : Value) (w : World) : (Instr.typeAssert (.iface 78 u) 49 64 true).run Tryd.prog w = .ok (.tuple #[.pointer none, .bool false]) w := by kernel_rfl
theorem tq_NodeSliceLast_PosAdd (u : Value) (w : World) : (Instr.typeAssert (.iface 78 u) 49 68 true).run Tryd.prog w = .ok (.tuple #[.pointer none, .bool false]) w := by kernel_rfl
theorem tq_NodeSliceLast_NodeSliceIndex (u : Value) (w : World) : (Instr.typeAssert (.iface 78 u) 49 73 true).run Tryd.prog w = .ok (.tuple #[.pointer none, .bool false]) w := by kernel_rfl
theorem tq_NodeSliceLast_NodeSliceLast (u : Value) (w : World) : (Instr.typeAssert (.iface 78 u) 49 78 true).run Tryd.prog w = .ok (.tuple #[u, .bool true]) w := by kernel_rfl
set_option maxRecDepth 100000 in
theorem posOf_NodeSliceLast (b : Nat) (vn : Value) (t : PT) (w : World) (h : w.heap[b]? = some (.cells #[vn] 80 (0, 0))) (hn : ∀ W, Below w.heap.size w W → Calls Tryd.prog 9 #[vn] W (PosRes t W)) : Calls Tryd.prog 9 #[.iface 78 (.pointer (some ⟨b, 0, none⟩))] w (PosRes (.mk [108, 97, 115, 116] [] 0 [t]) w) := by
  have hta0 := tq_NodeSliceLast_Var
  have hta1 := tq_NodeSliceLast_NodePos
  have hta2 := tq_NodeSliceLast_NodeEnd
  have hta3 := tq_NodeSliceLast_PosChoice
  have hta4 := tq_NodeSliceLast_NodeChoice
  have hta5 := tq_NodeSliceLast_PosAdd
  have hta6 := tq_NodeSliceLast_NodeSliceIndex
  have hta7 := tq_NodeSliceLast_NodeSliceLast
  have c0 : w.cell? ⟨b, 0, none⟩ = some vn := block_cell h 0
  have hbl := block_lt h
  have HN := Lib.hid hn
  have hW0 : (w.alloc (.cells #[.string ⟨#[]⟩, .string ⟨#[]⟩, .int .i64 0, .slice none 0 0] 24)).heap[w.heap.size]? = some (.cells #[.string ⟨#[]⟩, .string ⟨#[]⟩, .int .i64 0, .slice none 0 0] 24 (0, 0)) := heap_alloc_new w _
  have hb0 : Below w.heap.size w (w.alloc (.cells #[.string ⟨#[]⟩, .string ⟨#[]⟩, .int .i64 0, .slice none 0 0] 24)) := (Below.refl _ _).alloc (Nat.le_refl _) _
  have hsz : (w.alloc (.cells #[.string ⟨#[]⟩, .string ⟨#[]⟩, .int .i64 0, .slice none 0 0] 24)).heap.size = w.heap.size + 1 := by show (w.heap.push _).size = _; rw [Array.size_push]
  have HW0 := Lib.hid hW0
  have HB0 := Lib.hid hb0
  have HSz := Lib.hid hsz
  clear h hn hW0 hb0 hsz
  go_enter Tryd.func9, Tryd.ntmps9
  go_wp2_with fail
  refine (HN.out _ HB0.out).mono ?_
  rintro e w1 ⟨av, rfl, hA, hb1⟩
  obtain ⟨a, c, rfl⟩ := hA.shape
  obtain ⟨l, hl⟩ : ∃ l, t.args.length = l := ⟨_, rfl⟩
  rw [hl] at hA ⊢
  unfold PTVal
  have hW1 := (hb1.block _ (block_lt HW0.out)).trans HW0.out
  have x0 : w1.cell? ⟨w.heap.size, 0, none⟩ = some (.string ⟨#[]⟩) := block_cell hW1 0
  have x1 : w1.cell? ⟨w.heap.size, 1, none⟩ = some (.string ⟨#[]⟩) := block_cell hW1 1
  have x2 : w1.cell? ⟨w.heap.size, 2, none⟩ = some (.int .i64 0) := block_cell hW1 2
  have x3 : w1.cell? ⟨w.heap.size, 3, none⟩ = some (.slice none 0 0) := block_cell hW1 3
  have z0 : w1.frozen? ⟨w.heap.size, 0, none⟩ = false := block_free hW1 0
  have z1 : w1.frozen? ⟨w.heap.size, 1, none⟩ = false := block_free hW1 1
  have z2 : w1.frozen? ⟨w.heap.size, 2, none⟩ = false := block_free hW1 2
  have z3 : w1.frozen? ⟨w.heap.size, 3, none⟩ = false := block_free hW1 3
  have hlt1 := block_lt hW1
  have HA := Lib.hid hA
  have HB1 := Lib.hid hb1
  have HW1 := Lib.hid hW1
  clear hA hb1 hW1 hl
  go_wp2_with fail
  obtain ⟨hP, hPf, hPz⟩ := put4 HW1.out (.string ⟨#[108, 97, 115, 116]⟩) (.string ⟨#[]⟩) (.int .i64 0) (.slice (some ⟨w1.heap.size, 0, none⟩) 1 1)
  generalize (((w1.setCell ⟨w.heap.size, 0, none⟩ (.string ⟨#[108, 97, 115, 116]⟩)).setCell ⟨w.heap.size, 1, none⟩ (.string ⟨#[]⟩)).setCell ⟨w.heap.size, 2, none⟩ (.int .i64 0)).setCell ⟨w.heap.size, 3, none⟩ (.slice (some ⟨w1.heap.size, 0, none⟩) 1 1) = W3 at hP hPf hPz ⊢
  have hA3 : ArgsAt W3 (fun g => w.heap.size ≤ g) (.slice a l c) t.args := (HA.out.frm hPf (by intro x hx; simp at hx; have := HSz.out; omega)).mono (fun g hg _ => by have := HSz.out; omega)
  have hL := ArgsAt.lit (W := W3) (ok := fun g => w.heap.size ≤ g) (T := 24) [(t, .slice a l c)] (by simp) (by show w.heap.size ≤ W3.heap.size; omega) (by intro p hp; simp at hp; subst hp; exact hA3) (.cells #[.string (B t.kind), .string (B t.name), .int .i64 (t.n : Int), .slice a l c] 24) rfl
  have hF : (W3.alloc (.cells #[.string (B t.kind), .string (B t.name), .int .i64 (t.n : Int), .slice a l c] 24)).heap[w.heap.size]? = some (.cells #[.string ⟨#[108, 97, 115, 116]⟩, .string ⟨#[]⟩, .int .i64 0, .slice (some ⟨w1.heap.size, 0, none⟩) 1 1] 24 (0, 0)) := (Below.heap_alloc _ _ _ (block_lt hP)).trans hP
  have hB : Below w.heap.size w (W3.alloc (.cells #[.string (B t.kind), .string (B t.name), .int .i64 (t.n : Int), .slice a l c] 24)) := by
    have h1 := HB0.out.trans (HB1.out.mono HB0.out.size)
    have h2 : Below w.heap.size w W3 := ((Frm.ofBelow h1 []).trans hPf (fun x hx => by right; simp at hx; omega)).below
    exact h2.alloc h2.size _
  rw [hPz] at hL
  generalize W3.alloc (.cells #[.string (B t.kind), .string (B t.name), .int .i64 (t.n : Int), .slice a l c] 24) = F at hL hF hB ⊢
  have y0 : F.cell? ⟨w.heap.size, 0, none⟩ = some (.string ⟨#[108, 97, 115, 116]⟩) := block_cell hF 0
  have y1 : F.cell? ⟨w.heap.size, 1, none⟩ = some (.string ⟨#[]⟩) := block_cell hF 1
  have y2 : F.cell? ⟨w.heap.size, 2, none⟩ = some (.int .i64 0) := block_cell hF 2
  have y3 : F.cell? ⟨w.heap.size, 3, none⟩ = some (.slice (some ⟨w1.heap.size, 0, none⟩) 1 1) := block_cell hF 3
  exact bodyPost_ret (v := .agg #[.string ⟨#[108, 97, 115, 116]⟩, .string ⟨#[]⟩, .int .i64 0, .slice (some ⟨w1.heap.size, 0, none⟩) 1 1]) (by simp [results, Tryd.results9, go_sem, y0, y1, y2, y3]) rfl ⟨_, rfl, hL, hB⟩

theorem tq_Len_Var (u : Value) (w : World) : (Instr.typeAssert (.iface 81 u) 49 50 true).run Tryd.prog w = .ok (.tuple #[.pointer none, .bool false]) w := by kernel_rfl
theorem tq_Len_NodePos (u : Value) (w : World) : (Instr.typeAssert (.iface 81 u) 49 53 true).run Tryd.prog w = .ok (.tuple #[.pointer none, .bool false]) w := by kernel_rfl
theorem tq_Len_NodeEnd (u : Value) (w : World) : (Instr.typeAssert (.iface 81 u) 49 58 true).run Tryd.prog w = .ok (.tuple #[.pointer none, .bool false]) w := by kernel_rfl
theorem tq_Len_PosChoice (u : Value) (w : World) : (Instr.typeAssert (.iface 81 u) 49 60 true).run Tryd.prog w = .ok (.tuple #[.pointer none, .bool false]) w := by kernel_rfl
theorem tq_Len_NodeChoice (u : Value) (w : World) : (Instr.typeAssert (.iface 81 u) 49 64 true).run Tryd.prog w = .ok (.tuple #[.pointer none, .bool false]) w := by kernel_rfl
theorem tq_Len_PosAdd (u : Value) (w : World) : (Instr.typeAssert (.iface 81 u) 49 68 true).run Tryd.prog w = .ok (.tuple #[.pointer none, .bool false]) w := by kernel_rfl
theorem tq_Len_NodeSliceIndex (u : Value) (w : World) : (Instr.typeAssert (.iface 81 u) 49 73 true).run Tryd.prog w = .ok (.tuple #[.pointer none, .bool false]) w := by kernel_rfl
theorem tq_Len_NodeSliceLast (u : Value) (w : World) : (Instr.typeAssert (.iface 81 u) 49 78 true).run Tryd.prog w = .ok (.tuple #[.pointer none, .bool false]) w := by kernel_rfl
theorem tq_Len_Len (u : Value) (w : World) : (Instr.typeAssert (.iface 81 u) 49 81 true).run Tryd.prog w = .ok (.tuple #[u, .bool true]) w := by kernel_rfl
set_option maxRecDepth 100000 in
theorem posOf_Len (b : Nat) (vn : Value) (t : PT) (w : World) (h : w.heap[b]? = some (.cells #[vn] 85 (0, 0))) (hn : ∀ W, Below w.heap.size w W → Calls Tryd.prog 9 #[vn] W (PosRes t W)) : Calls Tryd.prog 9 #[.iface 81 (.pointer (some ⟨b, 0, none⟩))] w (PosRes (.mk [108, 101, 110] [] 0 [t]) w) := by
  have hta0 := tq_Len_Var
  have hta1 := tq_Len_NodePos
  have hta2 := tq_Len_NodeEnd
  have hta3 := tq_Len_PosChoice
  have hta4 := tq_Len_NodeChoice
  have hta5 := tq_Len_PosAdd
  have hta6 := tq_Len_NodeSliceIndex
  have hta7 := tq_Len_NodeSliceLast
  have hta8 := tq_Len_Len
  have c0 : w.cell? ⟨b, 0, none⟩ = some vn := block_cell h 0
  have hbl := block_lt h
  have HN := Lib.hid hn
  have hW0 : (w.alloc (.cells #[.string ⟨#[]⟩, .string ⟨#[]⟩, .int .i64 0, .slice none 0 0] 24)).heap[w.heap.size]? = some (.cells #[.string ⟨#[]⟩, .string ⟨#[]⟩, .int .i64 0, .slice none 0 0] 24 (0, 0)) := heap_alloc_new w _
  have hb0 : Below w.heap.size w (w.alloc (.cells #[.string ⟨#[]⟩, .string ⟨#[]⟩, .int .i64 0, .slice none 0 0] 24)) := (Below.refl _ _).alloc (Nat.le_refl _) _
  have hsz : (w.alloc (.cells #[.string ⟨#[]⟩, .string ⟨#[]⟩, .int .i64 0, .slice none 0 0] 24)).heap.size = w.heap.size + 1 := by show (w.heap.push _).size = _; rw [Array.size_push]
  have HW0 := Lib.hid hW0
  have HB0 := Lib.hid hb0
  have HSz := Lib.hid hsz
  clear h hn hW0 hb0 hsz
  go_enter Tryd.func9, Tryd.ntmps9
  go_wp2_with fail
  refine (HN.out _ HB0.out).mono ?_
  rintro e w1 ⟨av, rfl, hA, hb1⟩
  obtain ⟨a, c, rfl⟩ := hA.shape
  obtain ⟨l, hl⟩ : ∃ l, t.args.length = l := ⟨_, rfl⟩
  rw [hl] at hA ⊢
  unfold PTVal
  have hW1 := (hb1.block _ (block_lt HW0.out)).trans HW0.out
  have x0 : w1.cell? ⟨w.heap.size, 0, none⟩ = some (.string ⟨#[]⟩) := block_cell hW1 0
  have x1 : w1.cell? ⟨w.heap.size, 1, none⟩ = some (.string ⟨#[]⟩) := block_cell hW1 1
  have x2 : w1.cell? ⟨w.heap.size, 2, none⟩ = some (.int .i64 0) := block_cell hW1 2
  have x3 : w1.cell? ⟨w.heap.size, 3, none⟩ = some (.slice none 0 0) := block_cell hW1 3
  have z0 : w1.frozen? ⟨w.heap.size, 0, none⟩ = false := block_free hW1 0
  have z1 : w1.frozen? ⟨w.heap.size, 1, none⟩ = false := block_free hW1 1
  have z2 : w1.frozen? ⟨w.heap.size, 2, none⟩ = false := block_free hW1 2
  have z3 : w1.frozen? ⟨w.heap.size, 3, none⟩ = false := block_free hW1 3
  have hlt1 := block_lt hW1
  have HA := Lib.hid hA
  have HB1 := Lib.hid hb1
  have HW1 := Lib.hid hW1
  clear hA hb1 hW1 hl
  go_wp2_with fail
  obtain ⟨hP, hPf, hPz⟩ := put4 HW1.out (.string ⟨#[108, 101, 110]⟩) (.string ⟨#[]⟩) (.int .i64 0) (.slice (some ⟨w1.heap.size, 0, none⟩) 1 1)
  generalize (((w1.setCell ⟨w.heap.size, 0, none⟩ (.string ⟨#[108, 101, 110]⟩)).setCell ⟨w.heap.size, 1, none⟩ (.string ⟨#[]⟩)).setCell ⟨w.heap.size, 2, none⟩ (.int .i64 0)).setCell ⟨w.heap.size, 3, none⟩ (.slice (some ⟨w1.heap.size, 0, none⟩) 1 1) = W3 at hP hPf hPz ⊢
  have hA3 : ArgsAt W3 (fun g => w.heap.size ≤ g) (.slice a l c) t.args := (HA.out.frm hPf (by intro x hx; simp at hx; have := HSz.out; omega)).mono (fun g hg _ => by have := HSz.out; omega)
  have hL := ArgsAt.lit (W := W3) (ok := fun g => w.heap.size ≤ g) (T := 24) [(t, .slice a l c)] (by simp) (by show w.heap.size ≤ W3.heap.size; omega) (by intro p hp; simp at hp; subst hp; exact hA3) (.cells #[.string (B t.kind), .string (B t.name), .int .i64 (t.n : Int), .slice a l c] 24) rfl
  have hF : (W3.alloc (.cells #[.string (B t.kind), .string (B t.name), .int .i64 (t.n : Int), .slice a l c] 24)).heap[w.heap.size]? = some (.cells #[.string ⟨#[108, 101, 110]⟩, .string ⟨#[]⟩, .int .i64 0, .slice (some ⟨w1.heap.size, 0, none⟩) 1 1] 24 (0, 0)) := (Below.heap_alloc _ _ _ (block_lt hP)).trans hP
  have hB : Below w.heap.size w (W3.alloc (.cells #[.string (B t.kind), .string (B t.name), .int .i64 (t.n : Int), .slice a l c] 24)) := by
    have h1 := HB0.out.trans (HB1.out.mono HB0.out.size)
    have h2 : Below w.heap.size w W3 := ((Frm.ofBelow h1 []).trans hPf (fun x hx => by right; simp at hx; omega)).below
    exact h2.alloc h2.size _
  rw [hPz] at hL
  generalize W3.alloc (.cells #[.string (B t.kind), .string (B t.name), .int .i64 (t.n : Int), .slice a l c] 24) = F at hL hF hB ⊢
  have y0 : F.cell? ⟨w.heap.size, 0, none⟩ = some (.string ⟨#[108, 101, 110]⟩) := block_cell hF 0
  have y1 : F.cell? ⟨w.heap.size, 1, none⟩ = some (.string ⟨#[]⟩) := block_cell hF 1
  have y2 : F.cell? ⟨w.heap.size, 2, none⟩ = some (.int .i64 0) := block_cell hF 2
  have y3 : F.cell? ⟨w.heap.size, 3, none⟩ = some (.slice (some ⟨w1.heap.size, 0, none⟩) 1 1) := block_cell hF 3
  exact bodyPost_ret (v := .agg #[.string ⟨#[108, 101, 110]⟩, .string ⟨#[]⟩, .int .i64 0, .slice (some ⟨w1.heap.size, 0, none⟩) 1 1]) (by simp [results, Tryd.results9, go_sem, y0, y1, y2, y3]) rfl ⟨_, rfl, hL, hB⟩

theorem tq_IntLiteral_Var (u : Value) (w : World) : (Instr.typeAssert (.iface 86 u) 49 50 true).run Tryd.prog w = .ok (.tuple #[.pointer none, .bool false]) w := by kernel_rfl
theorem tq_IntLiteral_NodePos (u : Value) (w : World) : (Instr.typeAssert (.iface 86 u) 49 53 true).run Tryd.prog w = .ok (.tuple #[.pointer none, .bool false]) w := by kernel_rfl
theorem tq_IntLiteral_NodeEnd (u : Value) (w : World) : (Instr.typeAssert (.iface 86 u) 49 58 true).run Tryd.prog w = .ok (.tuple #[.pointer none, .bool false]) w := by kernel_rfl
theorem tq_IntLiteral_PosChoice (u : Value) (w : World) : (Instr.typeAssert (.iface 86 u) 49 60 true).run Tryd.prog w = .ok (.tuple #[.pointer none, .bool false]) w := by kernel_rfl
theorem tq_IntLiteral_NodeChoice (u : Value) (w : World) : (Instr.typeAssert (.iface 86 u) 49 64 true).run Tryd.prog w = .ok (.tuple #[.pointer none, .bool false]) w := by kernel_rfl
theorem tq_IntLiteral_PosAdd (u : Value) (w : World) : (Instr.typeAssert (.iface 86 u) 49 68 true).run Tryd.prog w = .ok (.tuple #[.pointer none, .bool false]) w := by kernel_rfl
theorem tq_IntLiteral_NodeSliceIndex (u : Value) (w : World) : (Instr.typeAssert (.iface 86 u) 49 73 true).run Tryd.prog w = .ok (.tuple #[.pointer none, .bool false]) w := by kernel_rfl
theorem tq_IntLiteral_NodeSliceLast (u : Value) (w : World) : (Instr.typeAssert (.iface 86 u) 49 78 true).run Tryd.prog w = .ok (.tuple #[.pointer none, .bool false]) w := by kernel_rfl
theorem tq_IntLiteral_Len (u : Value) (w : World) : (Instr.typeAssert (.iface 86 u) 49 81 true).run Tryd.prog w = .ok (.tuple #[.pointer none, .bool false]) w := by kernel_rfl
theorem tq_IntLiteral_IntLiteral (u : Value) (w : World) : (Instr.typeAssert (.iface 86 u) 49 86 true).run Tryd.prog w = .ok (.tuple #[u, .bool true]) w := by kernel_rfl
set_option maxRecDepth 100000 in
theorem posOf_IntLiteral (b : Nat) (n : Nat) (w : World) (h : w.heap[b]? = some (.cells #[.int .i64 (n : Int)] 88 (0, 0))) : Calls Tryd.prog 9 #[.iface 86 (.pointer (some ⟨b, 0, none⟩))] w (PosRes (.mk [105, 110, 116] [] n []) w) := by
  have hta0 := tq_IntLiteral_Var
  have hta1 := tq_IntLiteral_NodePos
  have hta2 := tq_IntLiteral_NodeEnd
  have hta3 := tq_IntLiteral_PosChoice
  have hta4 := tq_IntLiteral_NodeChoice
  have hta5 := tq_IntLiteral_PosAdd
  have hta6 := tq_IntLiteral_NodeSliceIndex
  have hta7 := tq_IntLiteral_NodeSliceLast
  have hta8 := tq_IntLiteral_Len
  have hta9 := tq_IntLiteral_IntLiteral
  have c0 : w.cell? ⟨b, 0, none⟩ = some (.int .i64 (n : Int)) := block_cell h 0
  have hbl := block_lt h
  have HR : Hid (∀ w', Below w.heap.size w w' → PosRes (.mk [105, 110, 116] [] n []) w (.returned (.agg #[.string ⟨#[105, 110, 116]⟩, .string ⟨#[]⟩, .int .i64 (n : Int), .slice none 0 0])) w') := fun w' hb => ⟨.slice none 0 0, rfl, .nil, hb⟩
  clear h
  go_enter Tryd.func9, Tryd.ntmps9
  go_wp2_with fail
  have y0 : (w.alloc (.cells #[.string ⟨#[105, 110, 116]⟩, .string ⟨#[]⟩, .int .i64 (n : Int), .slice none 0 0] 24)).cell? ⟨w.heap.size, 0, none⟩ = some (.string ⟨#[105, 110, 116]⟩) := block_cell (heap_alloc_new w _) 0
  have y1 : (w.alloc (.cells #[.string ⟨#[105, 110, 116]⟩, .string ⟨#[]⟩, .int .i64 (n : Int), .slice none 0 0] 24)).cell? ⟨w.heap.size, 1, none⟩ = some (.string ⟨#[]⟩) := block_cell (heap_alloc_new w _) 1
  have y2 : (w.alloc (.cells #[.string ⟨#[105, 110, 116]⟩, .string ⟨#[]⟩, .int .i64 (n : Int), .slice none 0 0] 24)).cell? ⟨w.heap.size, 2, none⟩ = some (.int .i64 (n : Int)) := block_cell (heap_alloc_new w _) 2
  have y3 : (w.alloc (.cells #[.string ⟨#[105, 110, 116]⟩, .string ⟨#[]⟩, .int .i64 (n : Int), .slice none 0 0] 24)).cell? ⟨w.heap.size, 3, none⟩ = some (.slice none 0 0) := block_cell (heap_alloc_new w _) 3
  have hb : Below w.heap.size w (w.alloc (.cells #[.string ⟨#[105, 110, 116]⟩, .string ⟨#[]⟩, .int .i64 (n : Int), .slice none 0 0] 24)) := (Below.refl _ _).alloc (Nat.le_refl _) _
  generalize w.alloc (.cells #[.string ⟨#[105, 110, 116]⟩, .string ⟨#[]⟩, .int .i64 (n : Int), .slice none 0 0] 24) = W at *
  exact bodyPost_ret (v := .agg #[.string ⟨#[105, 110, 116]⟩, .string ⟨#[]⟩, .int .i64 (n : Int), .slice none 0 0]) (by simp [results, Tryd.results9, go_sem, y0, y1, y2, y3]) rfl (HR.out _ hb)

end Go.Proofs.YtfhnjgoipajiaaaDoor.pl
