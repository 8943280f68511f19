/-
  posOf at the types with two or three parts. Printed by pos2_gen.py. No statement of the seat is proved here.
-/
import Derived.Test.YtfhnjgoipajiaaaDoorPlYa
import Derived.Deep.RegionHeld3
namespace Go.Proofs.YtfhnjgoipajiaaaDoor.pl
open Go.RowKit Go.Proofs.YtfhnjgoipajiaaaDoor.gen

theorem keep4 {w : World} {g b j : Nat} {u : Value} (h : w.cell? ⟨b, j, none⟩ = some u) (hn : b ≠ g) (v0 v1 v2 v3 : Value) (o : Obj) :
    (((((w.setCell ⟨g, 0, none⟩ v0).setCell ⟨g, 1, none⟩ v1).setCell ⟨g, 2, none⟩ v2).setCell ⟨g, 3, none⟩ v3).alloc o).cell? ⟨b, j, none⟩ = some u := by
  have hlt : b < w.heap.size := World.block_lt_of_cell? _ _ h
  rw [World.cell?_of_block (Below.heap_alloc _ _ _ (by simpa using hlt)), World.cell?_of_block (Below.heap_setCell _ _ _ _ hn), World.cell?_of_block (Below.heap_setCell _ _ _ _ hn), World.cell?_of_block (Below.heap_setCell _ _ _ _ hn), World.cell?_of_block (Below.heap_setCell _ _ _ _ hn)]
  exact h

theorem keepA {w : World} {b j : Nat} {u : Value} (h : w.cell? ⟨b, j, none⟩ = some u) (o : Obj) : (w.alloc o).cell? ⟨b, j, none⟩ = some u := by
  rw [World.cell?_of_block (Below.heap_alloc _ _ _ (World.block_lt_of_cell? _ _ h))]
  exact h

theorem tq_PosAdd_Var (u : Value) (w : World) : (Instr.typeAssert (.iface 68 u) 49 50 true).run Tryd.prog w = .ok (.tuple #[.pointer none, .bool false]) w := by kernel_rfl
theorem tq_PosAdd_NodePos (u : Value) (w : World) : (Instr.typeAssert (.iface 68 u) 49 53 true).run Tryd.prog w = .ok (.tuple #[.pointer none, .bool false]) w := by kernel_rfl
theorem tq_PosAdd_NodeEnd (u : Value) (w : World) : (Instr.typeAssert (.iface 68 u) 49 58 true).run Tryd.prog w = .ok (.tuple #[.pointer none, .bool false]) w := by kernel_rfl
theorem tq_PosAdd_PosChoice (u : Value) (w : World) : (Instr.typeAssert (.iface 68 u) 49 60 true).run Tryd.prog w = .ok (.tuple #[.pointer none, .bool false]) w := by kernel_rfl
theorem tq_PosAdd_NodeChoice (u : Value) (w : World) : (Instr.typeAssert (.iface 68 u) 49 64 true).run Tryd.prog w = .ok (.tuple #[.pointer none, .bool false]) w := by kernel_rfl
theorem tq_PosAdd_PosAdd (u : Value) (w : World) : (Instr.typeAssert (.iface 68 u) 49 68 true).run Tryd.prog w = .ok (.tuple #[u, .bool true]) w := by kernel_rfl
set_option maxRecDepth 100000 in
set_option maxHeartbeats 4000000 in
theorem posOf_PosAdd (b : Nat) (v0 v1 : Value) (t0 t1 : PT) (w : World) (h : w.heap[b]? = some (.cells #[v0, v1] 72 (0, 0))) (hi0 : ∃ ty0 p0, v0 = .iface ty0 p0) (hn0 : ∀ W, Below w.heap.size w W → Calls Tryd.prog 9 #[v0] W (PosRes t0 W)) (hi1 : ∃ ty1 p1, v1 = .iface ty1 p1) (hn1 : ∀ W, Below w.heap.size w W → Calls Tryd.prog 9 #[v1] W (PosRes t1 W)) : Calls Tryd.prog 9 #[.iface 68 (.pointer (some ⟨b, 0, none⟩))] w (PosRes (.mk [97, 100, 100] [] 0 [t0, t1]) w) := by
  have hta0 := tq_PosAdd_Var
  have hta1 := tq_PosAdd_NodePos
  have hta2 := tq_PosAdd_NodeEnd
  have hta3 := tq_PosAdd_PosChoice
  have hta4 := tq_PosAdd_NodeChoice
  have hta5 := tq_PosAdd_PosAdd
  obtain ⟨ty0, p0, rfl⟩ := hi0
  obtain ⟨l0, hl0⟩ : ∃ l, t0.args.length = l := ⟨_, rfl⟩
  have HN0 : Hid (∀ W', Below (w.alloc (.cells #[.string ⟨#[]⟩, .string ⟨#[]⟩, .int .i64 0, .slice none 0 0] 24)).heap.size (w.alloc (.cells #[.string ⟨#[]⟩, .string ⟨#[]⟩, .int .i64 0, .slice none 0 0] 24)) W' → Calls Tryd.prog 9 #[.iface ty0 p0] W' (fun e W2 => ∃ a m, e = .returned (.agg #[.string (B t0.kind), .string (B t0.name), .int .i64 (t0.n : Int), .slice a l0 m]) ∧ Hid (ArgsAt W2 (fun g => w.heap.size + 1 ≤ g) (.slice a l0 m) t0.args) ∧ Below (w.alloc (.cells #[.string ⟨#[]⟩, .string ⟨#[]⟩, .int .i64 0, .slice none 0 0] 24)).heap.size W' W2 ∧ Below W'.heap.size W' W2)) := fun W' hb' => by
    have hb0 : Below w.heap.size w (w.alloc (.cells #[.string ⟨#[]⟩, .string ⟨#[]⟩, .int .i64 0, .slice none 0 0] 24)) := (Below.refl _ _).alloc (Nat.le_refl _) _
    have hsz : (w.alloc (.cells #[.string ⟨#[]⟩, .string ⟨#[]⟩, .int .i64 0, .slice none 0 0] 24)).heap.size = w.heap.size + 1 := by show (w.heap.push _).size = _; rw [Array.size_push]
    refine (hn0 W' (hb0.trans (hb'.mono hb0.size))).mono fun e W2 ⟨av, h1, h2, h3⟩ => ?_
    obtain ⟨a, m, rfl⟩ := h2.shape
    rw [hl0] at h1 h2
    have hs := hb'.size
    exact ⟨a, m, h1, h2.mono (fun g hg _ => by omega), h3.mono hs, h3⟩
  obtain ⟨ty1, p1, rfl⟩ := hi1
  obtain ⟨l1, hl1⟩ : ∃ l, t1.args.length = l := ⟨_, rfl⟩
  have HN1 : Hid (∀ W', Below (w.alloc (.cells #[.string ⟨#[]⟩, .string ⟨#[]⟩, .int .i64 0, .slice none 0 0] 24)).heap.size (w.alloc (.cells #[.string ⟨#[]⟩, .string ⟨#[]⟩, .int .i64 0, .slice none 0 0] 24)) W' → Calls Tryd.prog 9 #[.iface ty1 p1] W' (fun e W2 => ∃ a m, e = .returned (.agg #[.string (B t1.kind), .string (B t1.name), .int .i64 (t1.n : Int), .slice a l1 m]) ∧ Hid (ArgsAt W2 (fun g => w.heap.size + 1 ≤ g) (.slice a l1 m) t1.args) ∧ Below (w.alloc (.cells #[.string ⟨#[]⟩, .string ⟨#[]⟩, .int .i64 0, .slice none 0 0] 24)).heap.size W' W2 ∧ Below W'.heap.size W' W2)) := fun W' hb' => by
    have hb0 : Below w.heap.size w (w.alloc (.cells #[.string ⟨#[]⟩, .string ⟨#[]⟩, .int .i64 0, .slice none 0 0] 24)) := (Below.refl _ _).alloc (Nat.le_refl _) _
    have hsz : (w.alloc (.cells #[.string ⟨#[]⟩, .string ⟨#[]⟩, .int .i64 0, .slice none 0 0] 24)).heap.size = w.heap.size + 1 := by show (w.heap.push _).size = _; rw [Array.size_push]
    refine (hn1 W' (hb0.trans (hb'.mono hb0.size))).mono fun e W2 ⟨av, h1, h2, h3⟩ => ?_
    obtain ⟨a, m, rfl⟩ := h2.shape
    rw [hl1] at h1 h2
    have hs := hb'.size
    exact ⟨a, m, h1, h2.mono (fun g hg _ => by omega), h3.mono hs, h3⟩
  have hb0 : Below w.heap.size w (w.alloc (.cells #[.string ⟨#[]⟩, .string ⟨#[]⟩, .int .i64 0, .slice none 0 0] 24)) := (Below.refl _ _).alloc (Nat.le_refl _) _
  have hsz : (w.alloc (.cells #[.string ⟨#[]⟩, .string ⟨#[]⟩, .int .i64 0, .slice none 0 0] 24)).heap.size = w.heap.size + 1 := by show (w.heap.push _).size = _; rw [Array.size_push]
  have hblk : ∀ w', Below (w.alloc (.cells #[.string ⟨#[]⟩, .string ⟨#[]⟩, .int .i64 0, .slice none 0 0] 24)).heap.size (w.alloc (.cells #[.string ⟨#[]⟩, .string ⟨#[]⟩, .int .i64 0, .slice none 0 0] 24)) w' → w'.heap[w.heap.size]? = some (.cells #[.string ⟨#[]⟩, .string ⟨#[]⟩, .int .i64 0, .slice none 0 0] 24 (0, 0)) := fun w' hb => (hb.block _ (by rw [hsz]; exact Nat.lt_succ_self _)).trans (heap_alloc_new w _)
  have hkp : ∀ w', Below (w.alloc (.cells #[.string ⟨#[]⟩, .string ⟨#[]⟩, .int .i64 0, .slice none 0 0] 24)).heap.size (w.alloc (.cells #[.string ⟨#[]⟩, .string ⟨#[]⟩, .int .i64 0, .slice none 0 0] 24)) w' → w'.cell? ⟨b, 0, none⟩ = some (.iface ty0 p0) ∧ w'.cell? ⟨b, 1, none⟩ = some (.iface ty1 p1) := fun w' hb => by
    have hc := moved (moved h hb0) hb
    exact ⟨block_cell hc 0, block_cell hc 1⟩
  have hbne : b ≠ w.heap.size := by have := block_lt h; omega
  have HB0 := Lib.hid hb0
  have HSz := Lib.hid hsz
  have HBlk := Lib.hid hblk
  have HKp := Lib.hid hkp
  clear h hn0 hl0 hn1 hl1 hb0 hsz hblk hkp
  go_enter Tryd.func9, Tryd.ntmps9
  go_wp2_with fail
  have HD := Lib.hid ((Below.refl (w.alloc (.cells #[.string ⟨#[]⟩, .string ⟨#[]⟩, .int .i64 0, .slice none 0 0] 24)).heap.size (w.alloc (.cells #[.string ⟨#[]⟩, .string ⟨#[]⟩, .int .i64 0, .slice none 0 0] 24))).drew)
  go_region_held3 (fun w' => w'.cell? ⟨b, 0, none⟩ = some (.iface ty0 p0) ∧ w'.cell? ⟨b, 1, none⟩ = some (.iface ty1 p1)) (first | (with_reducible exact HKp.out _ HD.out) | (obtain ⟨s0, s1⟩ := HKp.out _ HD.out; first | (with_reducible exact ⟨keepA s0 _, keepA s1 _⟩) | (with_reducible exact ⟨keep4 s0 hbne _ _ _ _ _, keep4 s1 hbne _ _ _ _ _⟩))) ((first | (go_at_call 9; (with_reducible refine (HN0.out _ HD.out).mono ?_); rintro _ w5 ⟨a0, m0, rfl, HA0, hb5, hb5o⟩; (try (have hT := HA1.out.on hb5o; clear HA1; have HA1 := Lib.hid hT; clear hT)); have hD5 := HD.out.trans hb5; clear HD; have HD := Lib.hid hD5; clear hD5; have hT7 := HBlk.out _ HD.out; have hlt := block_lt hT7; have x0 : w5.cell? ⟨w.heap.size, 0, none⟩ = some (.string ⟨#[]⟩) := block_cell hT7 0; have z0 : w5.frozen? ⟨w.heap.size, 0, none⟩ = false := block_free hT7 0; have x1 : w5.cell? ⟨w.heap.size, 1, none⟩ = some (.string ⟨#[]⟩) := block_cell hT7 1; have z1 : w5.frozen? ⟨w.heap.size, 1, none⟩ = false := block_free hT7 1; have x2 : w5.cell? ⟨w.heap.size, 2, none⟩ = some (.int .i64 0) := block_cell hT7 2; have z2 : w5.frozen? ⟨w.heap.size, 2, none⟩ = false := block_free hT7 2; have x3 : w5.cell? ⟨w.heap.size, 3, none⟩ = some (.slice none 0 0) := block_cell hT7 3; have z3 : w5.frozen? ⟨w.heap.size, 3, none⟩ = false := block_free hT7 3; clear hT7 hb5 hb5o) | (go_at_call 9; (with_reducible refine (HN1.out _ HD.out).mono ?_); rintro _ w5 ⟨a1, m1, rfl, HA1, hb5, hb5o⟩; (try (have hT := HA0.out.on hb5o; clear HA0; have HA0 := Lib.hid hT; clear hT)); have hD5 := HD.out.trans hb5; clear HD; have HD := Lib.hid hD5; clear hD5; have hT7 := HBlk.out _ HD.out; have hlt := block_lt hT7; have x0 : w5.cell? ⟨w.heap.size, 0, none⟩ = some (.string ⟨#[]⟩) := block_cell hT7 0; have z0 : w5.frozen? ⟨w.heap.size, 0, none⟩ = false := block_free hT7 0; have x1 : w5.cell? ⟨w.heap.size, 1, none⟩ = some (.string ⟨#[]⟩) := block_cell hT7 1; have z1 : w5.frozen? ⟨w.heap.size, 1, none⟩ = false := block_free hT7 1; have x2 : w5.cell? ⟨w.heap.size, 2, none⟩ = some (.int .i64 0) := block_cell hT7 2; have z2 : w5.frozen? ⟨w.heap.size, 2, none⟩ = false := block_free hT7 2; have x3 : w5.cell? ⟨w.heap.size, 3, none⟩ = some (.slice none 0 0) := block_cell hT7 3; have z3 : w5.frozen? ⟨w.heap.size, 3, none⟩ = false := block_free hT7 3; clear hT7 hb5 hb5o)))
  all_goals
    go_wp2_with fail
    have hD9 := HD.out
    have hT9 := HBlk.out _ hD9
    have hs9 := HSz.out
    have hz9 := hD9.size
    obtain ⟨hP, hPf, hPz⟩ := put4 hT9 (.string ⟨#[97, 100, 100]⟩) (.string ⟨#[]⟩) (.int .i64 0) (.slice (some ⟨w5.heap.size, 0, none⟩) 2 2)
    generalize (((w5.setCell ⟨w.heap.size, 0, none⟩ (.string ⟨#[97, 100, 100]⟩)).setCell ⟨w.heap.size, 1, none⟩ (.string ⟨#[]⟩)).setCell ⟨w.heap.size, 2, none⟩ (.int .i64 0)).setCell ⟨w.heap.size, 3, none⟩ (.slice (some ⟨w5.heap.size, 0, none⟩) 2 2) = W3 at hP hPf hPz ⊢
    have hA0 := (HA0.out.frm hPf (by intro x hx; simp at hx; omega)).mono (ok' := fun g => w.heap.size ≤ g) (fun g hg _ => by omega)
    have hA1 := (HA1.out.frm hPf (by intro x hx; simp at hx; omega)).mono (ok' := fun g => w.heap.size ≤ g) (fun g hg _ => by omega)
    have hL := ArgsAt.lit (W := W3) (ok := fun g => w.heap.size ≤ g) (T := 24) [(t0, .slice a0 l0 m0), (t1, .slice a1 l1 m1)] (by simp) (by show w.heap.size ≤ W3.heap.size; omega) (by
      intro p hp
      simp only [List.mem_cons, List.not_mem_nil, or_false] at hp
      rcases hp with rfl | rfl
      · exact hA0
      · exact hA1) (.cells #[.string (B t0.kind), .string (B t0.name), .int .i64 (t0.n : Int), .slice a0 l0 m0, .string (B t1.kind), .string (B t1.name), .int .i64 (t1.n : Int), .slice a1 l1 m1] 24) rfl
    have hF : (W3.alloc (.cells #[.string (B t0.kind), .string (B t0.name), .int .i64 (t0.n : Int), .slice a0 l0 m0, .string (B t1.kind), .string (B t1.name), .int .i64 (t1.n : Int), .slice a1 l1 m1] 24)).heap[w.heap.size]? = some (.cells #[.string ⟨#[97, 100, 100]⟩, .string ⟨#[]⟩, .int .i64 0, .slice (some ⟨w5.heap.size, 0, none⟩) 2 2] 24 (0, 0)) := (Below.heap_alloc _ _ _ (block_lt hP)).trans hP
    have hB : Below w.heap.size w (W3.alloc (.cells #[.string (B t0.kind), .string (B t0.name), .int .i64 (t0.n : Int), .slice a0 l0 m0, .string (B t1.kind), .string (B t1.name), .int .i64 (t1.n : Int), .slice a1 l1 m1] 24)) := by
      have h1 := HB0.out.trans (hD9.mono HB0.out.size)
      have h2 : Below w.heap.size w W3 := ((Frm.ofBelow h1 []).trans hPf (fun x hx => by right; simp at hx; omega)).below
      exact h2.alloc h2.size _
    rw [hPz] at hL
    generalize W3.alloc (.cells #[.string (B t0.kind), .string (B t0.name), .int .i64 (t0.n : Int), .slice a0 l0 m0, .string (B t1.kind), .string (B t1.name), .int .i64 (t1.n : Int), .slice a1 l1 m1] 24) = F at hL hF hB ⊢
    have y0 : F.cell? ⟨w.heap.size, 0, none⟩ = some (.string ⟨#[97, 100, 100]⟩) := block_cell hF 0
    have y1 : F.cell? ⟨w.heap.size, 1, none⟩ = some (.string ⟨#[]⟩) := block_cell hF 1
    have y2 : F.cell? ⟨w.heap.size, 2, none⟩ = some (.int .i64 0) := block_cell hF 2
    have y3 : F.cell? ⟨w.heap.size, 3, none⟩ = some (.slice (some ⟨w5.heap.size, 0, none⟩) 2 2) := block_cell hF 3
    exact bodyPost_ret (v := .agg #[.string ⟨#[97, 100, 100]⟩, .string ⟨#[]⟩, .int .i64 0, .slice (some ⟨w5.heap.size, 0, none⟩) 2 2]) (by simp [results, Tryd.results9, go_sem, y0, y1, y2, y3]) rfl ⟨_, rfl, hL, hB⟩

theorem tq_NodeSliceIndex_Var (u : Value) (w : World) : (Instr.typeAssert (.iface 73 u) 49 50 true).run Tryd.prog w = .ok (.tuple #[.pointer none, .bool false]) w := by kernel_rfl
theorem tq_NodeSliceIndex_NodePos (u : Value) (w : World) : (Instr.typeAssert (.iface 73 u) 49 53 true).run Tryd.prog w = .ok (.tuple #[.pointer none, .bool false]) w := by kernel_rfl
theorem tq_NodeSliceIndex_NodeEnd (u : Value) (w : World) : (Instr.typeAssert (.iface 73 u) 49 58 true).run Tryd.prog w = .ok (.tuple #[.pointer none, .bool false]) w := by kernel_rfl
theorem tq_NodeSliceIndex_PosChoice (u : Value) (w : World) : (Instr.typeAssert (.iface 73 u) 49 60 true).run Tryd.prog w = .ok (.tuple #[.pointer none, .bool false]) w := by kernel_rfl
theorem tq_NodeSliceIndex_NodeChoice (u : Value) (w : World) : (Instr.typeAssert (.iface 73 u) 49 64 true).run Tryd.prog w = .ok (.tuple #[.pointer none, .bool false]) w := by kernel_rfl
theorem tq_NodeSliceIndex_PosAdd (u : Value) (w : World) : (Instr.typeAssert (.iface 73 u) 49 68 true).run Tryd.prog w = .ok (.tuple #[.pointer none, .bool false]) w := by kernel_rfl
theorem tq_NodeSliceIndex_NodeSliceIndex (u : Value) (w : World) : (Instr.typeAssert (.iface 73 u) 49 73 true).run Tryd.prog w = .ok (.tuple #[u, .bool true]) w := by kernel_rfl
set_option maxRecDepth 100000 in
set_option maxHeartbeats 4000000 in
theorem posOf_NodeSliceIndex (b : Nat) (v0 v1 : Value) (t0 t1 : PT) (w : World) (h : w.heap[b]? = some (.cells #[v0, v1] 77 (0, 0))) (hi0 : ∃ ty0 p0, v0 = .iface ty0 p0) (hn0 : ∀ W, Below w.heap.size w W → Calls Tryd.prog 9 #[v0] W (PosRes t0 W)) (hi1 : ∃ ty1 p1, v1 = .iface ty1 p1) (hn1 : ∀ W, Below w.heap.size w W → Calls Tryd.prog 9 #[v1] W (PosRes t1 W)) : Calls Tryd.prog 9 #[.iface 73 (.pointer (some ⟨b, 0, none⟩))] w (PosRes (.mk [105, 110, 100, 101, 120] [] 0 [t0, t1]) w) := by
  have hta0 := tq_NodeSliceIndex_Var
  have hta1 := tq_NodeSliceIndex_NodePos
  have hta2 := tq_NodeSliceIndex_NodeEnd
  have hta3 := tq_NodeSliceIndex_PosChoice
  have hta4 := tq_NodeSliceIndex_NodeChoice
  have hta5 := tq_NodeSliceIndex_PosAdd
  have hta6 := tq_NodeSliceIndex_NodeSliceIndex
  obtain ⟨ty0, p0, rfl⟩ := hi0
  obtain ⟨l0, hl0⟩ : ∃ l, t0.args.length = l := ⟨_, rfl⟩
  have HN0 : Hid (∀ W', Below (w.alloc (.cells #[.string ⟨#[]⟩, .string ⟨#[]⟩, .int .i64 0, .slice none 0 0] 24)).heap.size (w.alloc (.cells #[.string ⟨#[]⟩, .string ⟨#[]⟩, .int .i64 0, .slice none 0 0] 24)) W' → Calls Tryd.prog 9 #[.iface ty0 p0] W' (fun e W2 => ∃ a m, e = .returned (.agg #[.string (B t0.kind), .string (B t0.name), .int .i64 (t0.n : Int), .slice a l0 m]) ∧ Hid (ArgsAt W2 (fun g => w.heap.size + 1 ≤ g) (.slice a l0 m) t0.args) ∧ Below (w.alloc (.cells #[.string ⟨#[]⟩, .string ⟨#[]⟩, .int .i64 0, .slice none 0 0] 24)).heap.size W' W2 ∧ Below W'.heap.size W' W2)) := fun W' hb' => by
    have hb0 : Below w.heap.size w (w.alloc (.cells #[.string ⟨#[]⟩, .string ⟨#[]⟩, .int .i64 0, .slice none 0 0] 24)) := (Below.refl _ _).alloc (Nat.le_refl _) _
    have hsz : (w.alloc (.cells #[.string ⟨#[]⟩, .string ⟨#[]⟩, .int .i64 0, .slice none 0 0] 24)).heap.size = w.heap.size + 1 := by show (w.heap.push _).size = _; rw [Array.size_push]
    refine (hn0 W' (hb0.trans (hb'.mono hb0.size))).mono fun e W2 ⟨av, h1, h2, h3⟩ => ?_
    obtain ⟨a, m, rfl⟩ := h2.shape
    rw [hl0] at h1 h2
    have hs := hb'.size
    exact ⟨a, m, h1, h2.mono (fun g hg _ => by omega), h3.mono hs, h3⟩
  obtain ⟨ty1, p1, rfl⟩ := hi1
  obtain ⟨l1, hl1⟩ : ∃ l, t1.args.length = l := ⟨_, rfl⟩
  have HN1 : Hid (∀ W', Below (w.alloc (.cells #[.string ⟨#[]⟩, .string ⟨#[]⟩, .int .i64 0, .slice none 0 0] 24)).heap.size (w.alloc (.cells #[.string ⟨#[]⟩, .string ⟨#[]⟩, .int .i64 0, .slice none 0 0] 24)) W' → Calls Tryd.prog 9 #[.iface ty1 p1] W' (fun e W2 => ∃ a m, e = .returned (.agg #[.string (B t1.kind), .string (B t1.name), .int .i64 (t1.n : Int), .slice a l1 m]) ∧ Hid (ArgsAt W2 (fun g => w.heap.size + 1 ≤ g) (.slice a l1 m) t1.args) ∧ Below (w.alloc (.cells #[.string ⟨#[]⟩, .string ⟨#[]⟩, .int .i64 0, .slice none 0 0] 24)).heap.size W' W2 ∧ Below W'.heap.size W' W2)) := fun W' hb' => by
    have hb0 : Below w.heap.size w (w.alloc (.cells #[.string ⟨#[]⟩, .string ⟨#[]⟩, .int .i64 0, .slice none 0 0] 24)) := (Below.refl _ _).alloc (Nat.le_refl _) _
    have hsz : (w.alloc (.cells #[.string ⟨#[]⟩, .string ⟨#[]⟩, .int .i64 0, .slice none 0 0] 24)).heap.size = w.heap.size + 1 := by show (w.heap.push _).size = _; rw [Array.size_push]
    refine (hn1 W' (hb0.trans (hb'.mono hb0.size))).mono fun e W2 ⟨av, h1, h2, h3⟩ => ?_
    obtain ⟨a, m, rfl⟩ := h2.shape
    rw [hl1] at h1 h2
    have hs := hb'.size
    exact ⟨a, m, h1, h2.mono (fun g hg _ => by omega), h3.mono hs, h3⟩
  have hb0 : Below w.heap.size w (w.alloc (.cells #[.string ⟨#[]⟩, .string ⟨#[]⟩, .int .i64 0, .slice none 0 0] 24)) := (Below.refl _ _).alloc (Nat.le_refl _) _
  have hsz : (w.alloc (.cells #[.string ⟨#[]⟩, .string ⟨#[]⟩, .int .i64 0, .slice none 0 0] 24)).heap.size = w.heap.size + 1 := by show (w.heap.push _).size = _; rw [Array.size_push]
  have hblk : ∀ w', Below (w.alloc (.cells #[.string ⟨#[]⟩, .string ⟨#[]⟩, .int .i64 0, .slice none 0 0] 24)).heap.size (w.alloc (.cells #[.string ⟨#[]⟩, .string ⟨#[]⟩, .int .i64 0, .slice none 0 0] 24)) w' → w'.heap[w.heap.size]? = some (.cells #[.string ⟨#[]⟩, .string ⟨#[]⟩, .int .i64 0, .slice none 0 0] 24 (0, 0)) := fun w' hb => (hb.block _ (by rw [hsz]; exact Nat.lt_succ_self _)).trans (heap_alloc_new w _)
  have hkp : ∀ w', Below (w.alloc (.cells #[.string ⟨#[]⟩, .string ⟨#[]⟩, .int .i64 0, .slice none 0 0] 24)).heap.size (w.alloc (.cells #[.string ⟨#[]⟩, .string ⟨#[]⟩, .int .i64 0, .slice none 0 0] 24)) w' → w'.cell? ⟨b, 0, none⟩ = some (.iface ty0 p0) ∧ w'.cell? ⟨b, 1, none⟩ = some (.iface ty1 p1) := fun w' hb => by
    have hc := moved (moved h hb0) hb
    exact ⟨block_cell hc 0, block_cell hc 1⟩
  have hbne : b ≠ w.heap.size := by have := block_lt h; omega
  have HB0 := Lib.hid hb0
  have HSz := Lib.hid hsz
  have HBlk := Lib.hid hblk
  have HKp := Lib.hid hkp
  clear h hn0 hl0 hn1 hl1 hb0 hsz hblk hkp
  go_enter Tryd.func9, Tryd.ntmps9
  go_wp2_with fail
  have HD := Lib.hid ((Below.refl (w.alloc (.cells #[.string ⟨#[]⟩, .string ⟨#[]⟩, .int .i64 0, .slice none 0 0] 24)).heap.size (w.alloc (.cells #[.string ⟨#[]⟩, .string ⟨#[]⟩, .int .i64 0, .slice none 0 0] 24))).drew)
  go_region_held3 (fun w' => w'.cell? ⟨b, 0, none⟩ = some (.iface ty0 p0) ∧ w'.cell? ⟨b, 1, none⟩ = some (.iface ty1 p1)) (first | (with_reducible exact HKp.out _ HD.out) | (obtain ⟨s0, s1⟩ := HKp.out _ HD.out; first | (with_reducible exact ⟨keepA s0 _, keepA s1 _⟩) | (with_reducible exact ⟨keep4 s0 hbne _ _ _ _ _, keep4 s1 hbne _ _ _ _ _⟩))) ((first | (go_at_call 9; (with_reducible refine (HN0.out _ HD.out).mono ?_); rintro _ w5 ⟨a0, m0, rfl, HA0, hb5, hb5o⟩; (try (have hT := HA1.out.on hb5o; clear HA1; have HA1 := Lib.hid hT; clear hT)); have hD5 := HD.out.trans hb5; clear HD; have HD := Lib.hid hD5; clear hD5; have hT7 := HBlk.out _ HD.out; have hlt := block_lt hT7; have x0 : w5.cell? ⟨w.heap.size, 0, none⟩ = some (.string ⟨#[]⟩) := block_cell hT7 0; have z0 : w5.frozen? ⟨w.heap.size, 0, none⟩ = false := block_free hT7 0; have x1 : w5.cell? ⟨w.heap.size, 1, none⟩ = some (.string ⟨#[]⟩) := block_cell hT7 1; have z1 : w5.frozen? ⟨w.heap.size, 1, none⟩ = false := block_free hT7 1; have x2 : w5.cell? ⟨w.heap.size, 2, none⟩ = some (.int .i64 0) := block_cell hT7 2; have z2 : w5.frozen? ⟨w.heap.size, 2, none⟩ = false := block_free hT7 2; have x3 : w5.cell? ⟨w.heap.size, 3, none⟩ = some (.slice none 0 0) := block_cell hT7 3; have z3 : w5.frozen? ⟨w.heap.size, 3, none⟩ = false := block_free hT7 3; clear hT7 hb5 hb5o) | (go_at_call 9; (with_reducible refine (HN1.out _ HD.out).mono ?_); rintro _ w5 ⟨a1, m1, rfl, HA1, hb5, hb5o⟩; (try (have hT := HA0.out.on hb5o; clear HA0; have HA0 := Lib.hid hT; clear hT)); have hD5 := HD.out.trans hb5; clear HD; have HD := Lib.hid hD5; clear hD5; have hT7 := HBlk.out _ HD.out; have hlt := block_lt hT7; have x0 : w5.cell? ⟨w.heap.size, 0, none⟩ = some (.string ⟨#[]⟩) := block_cell hT7 0; have z0 : w5.frozen? ⟨w.heap.size, 0, none⟩ = false := block_free hT7 0; have x1 : w5.cell? ⟨w.heap.size, 1, none⟩ = some (.string ⟨#[]⟩) := block_cell hT7 1; have z1 : w5.frozen? ⟨w.heap.size, 1, none⟩ = false := block_free hT7 1; have x2 : w5.cell? ⟨w.heap.size, 2, none⟩ = some (.int .i64 0) := block_cell hT7 2; have z2 : w5.frozen? ⟨w.heap.size, 2, none⟩ = false := block_free hT7 2; have x3 : w5.cell? ⟨w.heap.size, 3, none⟩ = some (.slice none 0 0) := block_cell hT7 3; have z3 : w5.frozen? ⟨w.heap.size, 3, none⟩ = false := block_free hT7 3; clear hT7 hb5 hb5o)))
  all_goals
    go_wp2_with fail
    have hD9 := HD.out
    have hT9 := HBlk.out _ hD9
    have hs9 := HSz.out
    have hz9 := hD9.size
    obtain ⟨hP, hPf, hPz⟩ := put4 hT9 (.string ⟨#[105, 110, 100, 101, 120]⟩) (.string ⟨#[]⟩) (.int .i64 0) (.slice (some ⟨w5.heap.size, 0, none⟩) 2 2)
    generalize (((w5.setCell ⟨w.heap.size, 0, none⟩ (.string ⟨#[105, 110, 100, 101, 120]⟩)).setCell ⟨w.heap.size, 1, none⟩ (.string ⟨#[]⟩)).setCell ⟨w.heap.size, 2, none⟩ (.int .i64 0)).setCell ⟨w.heap.size, 3, none⟩ (.slice (some ⟨w5.heap.size, 0, none⟩) 2 2) = W3 at hP hPf hPz ⊢
    have hA0 := (HA0.out.frm hPf (by intro x hx; simp at hx; omega)).mono (ok' := fun g => w.heap.size ≤ g) (fun g hg _ => by omega)
    have hA1 := (HA1.out.frm hPf (by intro x hx; simp at hx; omega)).mono (ok' := fun g => w.heap.size ≤ g) (fun g hg _ => by omega)
    have hL := ArgsAt.lit (W := W3) (ok := fun g => w.heap.size ≤ g) (T := 24) [(t0, .slice a0 l0 m0), (t1, .slice a1 l1 m1)] (by simp) (by show w.heap.size ≤ W3.heap.size; omega) (by
      intro p hp
      simp only [List.mem_cons, List.not_mem_nil, or_false] at hp
      rcases hp with rfl | rfl
      · exact hA0
      · exact hA1) (.cells #[.string (B t0.kind), .string (B t0.name), .int .i64 (t0.n : Int), .slice a0 l0 m0, .string (B t1.kind), .string (B t1.name), .int .i64 (t1.n : Int), .slice a1 l1 m1] 24) rfl
    have hF : (W3.alloc (.cells #[.string (B t0.kind), .string (B t0.name), .int .i64 (t0.n : Int), .slice a0 l0 m0, .string (B t1.kind), .string (B t1.name), .int .i64 (t1.n : Int), .slice a1 l1 m1] 24)).heap[w.heap.size]? = some (.cells #[.string ⟨#[105, 110, 100, 101, 120]⟩, .string ⟨#[]⟩, .int .i64 0, .slice (some ⟨w5.heap.size, 0, none⟩) 2 2] 24 (0, 0)) := (Below.heap_alloc _ _ _ (block_lt hP)).trans hP
    have hB : Below w.heap.size w (W3.alloc (.cells #[.string (B t0.kind), .string (B t0.name), .int .i64 (t0.n : Int), .slice a0 l0 m0, .string (B t1.kind), .string (B t1.name), .int .i64 (t1.n : Int), .slice a1 l1 m1] 24)) := by
      have h1 := HB0.out.trans (hD9.mono HB0.out.size)
      have h2 : Below w.heap.size w W3 := ((Frm.ofBelow h1 []).trans hPf (fun x hx => by right; simp at hx; omega)).below
      exact h2.alloc h2.size _
    rw [hPz] at hL
    generalize W3.alloc (.cells #[.string (B t0.kind), .string (B t0.name), .int .i64 (t0.n : Int), .slice a0 l0 m0, .string (B t1.kind), .string (B t1.name), .int .i64 (t1.n : Int), .slice a1 l1 m1] 24) = F at hL hF hB ⊢
    have y0 : F.cell? ⟨w.heap.size, 0, none⟩ = some (.string ⟨#[105, 110, 100, 101, 120]⟩) := block_cell hF 0
    have y1 : F.cell? ⟨w.heap.size, 1, none⟩ = some (.string ⟨#[]⟩) := block_cell hF 1
    have y2 : F.cell? ⟨w.heap.size, 2, none⟩ = some (.int .i64 0) := block_cell hF 2
    have y3 : F.cell? ⟨w.heap.size, 3, none⟩ = some (.slice (some ⟨w5.heap.size, 0, none⟩) 2 2) := block_cell hF 3
    exact bodyPost_ret (v := .agg #[.string ⟨#[105, 110, 100, 101, 120]⟩, .string ⟨#[]⟩, .int .i64 0, .slice (some ⟨w5.heap.size, 0, none⟩) 2 2]) (by simp [results, Tryd.results9, go_sem, y0, y1, y2, y3]) rfl ⟨_, rfl, hL, hB⟩

theorem tq_IfThenElse_Var (u : Value) (w : World) : (Instr.typeAssert (.iface 89 u) 49 50 true).run Tryd.prog w = .ok (.tuple #[.pointer none, .bool false]) w := by kernel_rfl
theorem tq_IfThenElse_NodePos (u : Value) (w : World) : (Instr.typeAssert (.iface 89 u) 49 53 true).run Tryd.prog w = .ok (.tuple #[.pointer none, .bool false]) w := by kernel_rfl
theorem tq_IfThenElse_NodeEnd (u : Value) (w : World) : (Instr.typeAssert (.iface 89 u) 49 58 true).run Tryd.prog w = .ok (.tuple #[.pointer none, .bool false]) w := by kernel_rfl
theorem tq_IfThenElse_PosChoice (u : Value) (w : World) : (Instr.typeAssert (.iface 89 u) 49 60 true).run Tryd.prog w = .ok (.tuple #[.pointer none, .bool false]) w := by kernel_rfl
theorem tq_IfThenElse_NodeChoice (u : Value) (w : World) : (Instr.typeAssert (.iface 89 u) 49 64 true).run Tryd.prog w = .ok (.tuple #[.pointer none, .bool false]) w := by kernel_rfl
theorem tq_IfThenElse_PosAdd (u : Value) (w : World) : (Instr.typeAssert (.iface 89 u) 49 68 true).run Tryd.prog w = .ok (.tuple #[.pointer none, .bool false]) w := by kernel_rfl
theorem tq_IfThenElse_NodeSliceIndex (u : Value) (w : World) : (Instr.typeAssert (.iface 89 u) 49 73 true).run Tryd.prog w = .ok (.tuple #[.pointer none, .bool false]) w := by kernel_rfl
theorem tq_IfThenElse_NodeSliceLast (u : Value) (w : World) : (Instr.typeAssert (.iface 89 u) 49 78 true).run Tryd.prog w = .ok (.tuple #[.pointer none, .bool false]) w := by kernel_rfl
theorem tq_IfThenElse_Len (u : Value) (w : World) : (Instr.typeAssert (.iface 89 u) 49 81 true).run Tryd.prog w = .ok (.tuple #[.pointer none, .bool false]) w := by kernel_rfl
theorem tq_IfThenElse_IntLiteral (u : Value) (w : World) : (Instr.typeAssert (.iface 89 u) 49 86 true).run Tryd.prog w = .ok (.tuple #[.pointer none, .bool false]) w := by kernel_rfl
theorem tq_IfThenElse_IfThenElse (u : Value) (w : World) : (Instr.typeAssert (.iface 89 u) 49 89 true).run Tryd.prog w = .ok (.tuple #[u, .bool true]) w := by kernel_rfl
set_option maxRecDepth 100000 in
set_option maxHeartbeats 4000000 in
theorem posOf_IfThenElse (b : Nat) (v0 v1 v2 : Value) (t0 t1 t2 : PT) (w : World) (h : w.heap[b]? = some (.cells #[v0, v1, v2] 93 (0, 0))) (hi0 : ∃ ty0 p0, v0 = .iface ty0 p0) (hn0 : ∀ W, Below w.heap.size w W → Calls Tryd.prog 9 #[v0] W (PosRes t0 W)) (hi1 : ∃ ty1 p1, v1 = .iface ty1 p1) (hn1 : ∀ W, Below w.heap.size w W → Calls Tryd.prog 9 #[v1] W (PosRes t1 W)) (hi2 : ∃ ty2 p2, v2 = .iface ty2 p2) (hn2 : ∀ W, Below w.heap.size w W → Calls Tryd.prog 9 #[v2] W (PosRes t2 W)) : Calls Tryd.prog 9 #[.iface 89 (.pointer (some ⟨b, 0, none⟩))] w (PosRes (.mk [105, 102] [] 0 [t0, t1, t2]) w) := by
  have hta0 := tq_IfThenElse_Var
  have hta1 := tq_IfThenElse_NodePos
  have hta2 := tq_IfThenElse_NodeEnd
  have hta3 := tq_IfThenElse_PosChoice
  have hta4 := tq_IfThenElse_NodeChoice
  have hta5 := tq_IfThenElse_PosAdd
  have hta6 := tq_IfThenElse_NodeSliceIndex
  have hta7 := tq_IfThenElse_NodeSliceLast
  have hta8 := tq_IfThenElse_Len
  have hta9 := tq_IfThenElse_IntLiteral
  have hta10 := tq_IfThenElse_IfThenElse
  obtain ⟨ty0, p0, rfl⟩ := hi0
  obtain ⟨l0, hl0⟩ : ∃ l, t0.args.length = l := ⟨_, rfl⟩
  have HN0 : Hid (∀ W', Below (w.alloc (.cells #[.string ⟨#[]⟩, .string ⟨#[]⟩, .int .i64 0, .slice none 0 0] 24)).heap.size (w.alloc (.cells #[.string ⟨#[]⟩, .string ⟨#[]⟩, .int .i64 0, .slice none 0 0] 24)) W' → Calls Tryd.prog 9 #[.iface ty0 p0] W' (fun e W2 => ∃ a m, e = .returned (.agg #[.string (B t0.kind), .string (B t0.name), .int .i64 (t0.n : Int), .slice a l0 m]) ∧ Hid (ArgsAt W2 (fun g => w.heap.size + 1 ≤ g) (.slice a l0 m) t0.args) ∧ Below (w.alloc (.cells #[.string ⟨#[]⟩, .string ⟨#[]⟩, .int .i64 0, .slice none 0 0] 24)).heap.size W' W2 ∧ Below W'.heap.size W' W2)) := fun W' hb' => by
    have hb0 : Below w.heap.size w (w.alloc (.cells #[.string ⟨#[]⟩, .string ⟨#[]⟩, .int .i64 0, .slice none 0 0] 24)) := (Below.refl _ _).alloc (Nat.le_refl _) _
    have hsz : (w.alloc (.cells #[.string ⟨#[]⟩, .string ⟨#[]⟩, .int .i64 0, .slice none 0 0] 24)).heap.size = w.heap.size + 1 := by show (w.heap.push _).size = _; rw [Array.size_push]
    refine (hn0 W' (hb0.trans (hb'.mono hb0.size))).mono fun e W2 ⟨av, h1, h2, h3⟩ => ?_
    obtain ⟨a, m, rfl⟩ := h2.shape
    rw [hl0] at h1 h2
    have hs := hb'.size
    exact ⟨a, m, h1, h2.mono (fun g hg _ => by omega), h3.mono hs, h3⟩
  obtain ⟨ty1, p1, rfl⟩ := hi1
  obtain ⟨l1, hl1⟩ : ∃ l, t1.args.length = l := ⟨_, rfl⟩
  have HN1 : Hid (∀ W', Below (w.alloc (.cells #[.string ⟨#[]⟩, .string ⟨#[]⟩, .int .i64 0, .slice none 0 0] 24)).heap.size (w.alloc (.cells #[.string ⟨#[]⟩, .string ⟨#[]⟩, .int .i64 0, .slice none 0 0] 24)) W' → Calls Tryd.prog 9 #[.iface ty1 p1] W' (fun e W2 => ∃ a m, e = .returned (.agg #[.string (B t1.kind), .string (B t1.name), .int .i64 (t1.n : Int), .slice a l1 m]) ∧ Hid (ArgsAt W2 (fun g => w.heap.size + 1 ≤ g) (.slice a l1 m) t1.args) ∧ Below (w.alloc (.cells #[.string ⟨#[]⟩, .string ⟨#[]⟩, .int .i64 0, .slice none 0 0] 24)).heap.size W' W2 ∧ Below W'.heap.size W' W2)) := fun W' hb' => by
    have hb0 : Below w.heap.size w (w.alloc (.cells #[.string ⟨#[]⟩, .string ⟨#[]⟩, .int .i64 0, .slice none 0 0] 24)) := (Below.refl _ _).alloc (Nat.le_refl _) _
    have hsz : (w.alloc (.cells #[.string ⟨#[]⟩, .string ⟨#[]⟩, .int .i64 0, .slice none 0 0] 24)).heap.size = w.heap.size + 1 := by show (w.heap.push _).size = _; rw [Array.size_push]
    refine (hn1 W' (hb0.trans (hb'.mono hb0.size))).mono fun e W2 ⟨av, h1, h2, h3⟩ => ?_
    obtain ⟨a, m, rfl⟩ := h2.shape
    rw [hl1] at h1 h2
    have hs := hb'.size
    exact ⟨a, m, h1, h2.mono (fun g hg _ => by omega), h3.mono hs, h3⟩
  obtain ⟨ty2, p2, rfl⟩ := hi2
  obtain ⟨l2, hl2⟩ : ∃ l, t2.args.length = l := ⟨_, rfl⟩
  have HN2 : Hid (∀ W', Below (w.alloc (.cells #[.string ⟨#[]⟩, .string ⟨#[]⟩, .int .i64 0, .slice none 0 0] 24)).heap.size (w.alloc (.cells #[.string ⟨#[]⟩, .string ⟨#[]⟩, .int .i64 0, .slice none 0 0] 24)) W' → Calls Tryd.prog 9 #[.iface ty2 p2] W' (fun e W2 => ∃ a m, e = .returned (.agg #[.string (B t2.kind), .string (B t2.name), .int .i64 (t2.n : Int), .slice a l2 m]) ∧ Hid (ArgsAt W2 (fun g => w.heap.size + 1 ≤ g) (.slice a l2 m) t2.args) ∧ Below (w.alloc (.cells #[.string ⟨#[]⟩, .string ⟨#[]⟩, .int .i64 0, .slice none 0 0] 24)).heap.size W' W2 ∧ Below W'.heap.size W' W2)) := fun W' hb' => by
    have hb0 : Below w.heap.size w (w.alloc (.cells #[.string ⟨#[]⟩, .string ⟨#[]⟩, .int .i64 0, .slice none 0 0] 24)) := (Below.refl _ _).alloc (Nat.le_refl _) _
    have hsz : (w.alloc (.cells #[.string ⟨#[]⟩, .string ⟨#[]⟩, .int .i64 0, .slice none 0 0] 24)).heap.size = w.heap.size + 1 := by show (w.heap.push _).size = _; rw [Array.size_push]
    refine (hn2 W' (hb0.trans (hb'.mono hb0.size))).mono fun e W2 ⟨av, h1, h2, h3⟩ => ?_
    obtain ⟨a, m, rfl⟩ := h2.shape
    rw [hl2] at h1 h2
    have hs := hb'.size
    exact ⟨a, m, h1, h2.mono (fun g hg _ => by omega), h3.mono hs, h3⟩
  have hb0 : Below w.heap.size w (w.alloc (.cells #[.string ⟨#[]⟩, .string ⟨#[]⟩, .int .i64 0, .slice none 0 0] 24)) := (Below.refl _ _).alloc (Nat.le_refl _) _
  have hsz : (w.alloc (.cells #[.string ⟨#[]⟩, .string ⟨#[]⟩, .int .i64 0, .slice none 0 0] 24)).heap.size = w.heap.size + 1 := by show (w.heap.push _).size = _; rw [Array.size_push]
  have hblk : ∀ w', Below (w.alloc (.cells #[.string ⟨#[]⟩, .string ⟨#[]⟩, .int .i64 0, .slice none 0 0] 24)).heap.size (w.alloc (.cells #[.string ⟨#[]⟩, .string ⟨#[]⟩, .int .i64 0, .slice none 0 0] 24)) w' → w'.heap[w.heap.size]? = some (.cells #[.string ⟨#[]⟩, .string ⟨#[]⟩, .int .i64 0, .slice none 0 0] 24 (0, 0)) := fun w' hb => (hb.block _ (by rw [hsz]; exact Nat.lt_succ_self _)).trans (heap_alloc_new w _)
  have hkp : ∀ w', Below (w.alloc (.cells #[.string ⟨#[]⟩, .string ⟨#[]⟩, .int .i64 0, .slice none 0 0] 24)).heap.size (w.alloc (.cells #[.string ⟨#[]⟩, .string ⟨#[]⟩, .int .i64 0, .slice none 0 0] 24)) w' → w'.cell? ⟨b, 0, none⟩ = some (.iface ty0 p0) ∧ w'.cell? ⟨b, 1, none⟩ = some (.iface ty1 p1) ∧ w'.cell? ⟨b, 2, none⟩ = some (.iface ty2 p2) := fun w' hb => by
    have hc := moved (moved h hb0) hb
    exact ⟨block_cell hc 0, block_cell hc 1, block_cell hc 2⟩
  have hbne : b ≠ w.heap.size := by have := block_lt h; omega
  have HB0 := Lib.hid hb0
  have HSz := Lib.hid hsz
  have HBlk := Lib.hid hblk
  have HKp := Lib.hid hkp
  clear h hn0 hl0 hn1 hl1 hn2 hl2 hb0 hsz hblk hkp
  go_enter Tryd.func9, Tryd.ntmps9
  go_wp2_with fail
  have HD := Lib.hid ((Below.refl (w.alloc (.cells #[.string ⟨#[]⟩, .string ⟨#[]⟩, .int .i64 0, .slice none 0 0] 24)).heap.size (w.alloc (.cells #[.string ⟨#[]⟩, .string ⟨#[]⟩, .int .i64 0, .slice none 0 0] 24))).drew)
  go_region_held3 (fun w' => w'.cell? ⟨b, 0, none⟩ = some (.iface ty0 p0) ∧ w'.cell? ⟨b, 1, none⟩ = some (.iface ty1 p1) ∧ w'.cell? ⟨b, 2, none⟩ = some (.iface ty2 p2)) (first | (with_reducible exact HKp.out _ HD.out) | (obtain ⟨s0, s1, s2⟩ := HKp.out _ HD.out; first | (with_reducible exact ⟨keepA s0 _, keepA s1 _, keepA s2 _⟩) | (with_reducible exact ⟨keep4 s0 hbne _ _ _ _ _, keep4 s1 hbne _ _ _ _ _, keep4 s2 hbne _ _ _ _ _⟩))) ((first | (go_at_call 9; (with_reducible refine (HN0.out _ HD.out).mono ?_); rintro _ w5 ⟨a0, m0, rfl, HA0, hb5, hb5o⟩; (try (have hT := HA1.out.on hb5o; clear HA1; have HA1 := Lib.hid hT; clear hT)); (try (have hT := HA2.out.on hb5o; clear HA2; have HA2 := Lib.hid hT; clear hT)); have hD5 := HD.out.trans hb5; clear HD; have HD := Lib.hid hD5; clear hD5; have hT7 := HBlk.out _ HD.out; have hlt := block_lt hT7; have x0 : w5.cell? ⟨w.heap.size, 0, none⟩ = some (.string ⟨#[]⟩) := block_cell hT7 0; have z0 : w5.frozen? ⟨w.heap.size, 0, none⟩ = false := block_free hT7 0; have x1 : w5.cell? ⟨w.heap.size, 1, none⟩ = some (.string ⟨#[]⟩) := block_cell hT7 1; have z1 : w5.frozen? ⟨w.heap.size, 1, none⟩ = false := block_free hT7 1; have x2 : w5.cell? ⟨w.heap.size, 2, none⟩ = some (.int .i64 0) := block_cell hT7 2; have z2 : w5.frozen? ⟨w.heap.size, 2, none⟩ = false := block_free hT7 2; have x3 : w5.cell? ⟨w.heap.size, 3, none⟩ = some (.slice none 0 0) := block_cell hT7 3; have z3 : w5.frozen? ⟨w.heap.size, 3, none⟩ = false := block_free hT7 3; clear hT7 hb5 hb5o) | (go_at_call 9; (with_reducible refine (HN1.out _ HD.out).mono ?_); rintro _ w5 ⟨a1, m1, rfl, HA1, hb5, hb5o⟩; (try (have hT := HA0.out.on hb5o; clear HA0; have HA0 := Lib.hid hT; clear hT)); (try (have hT := HA2.out.on hb5o; clear HA2; have HA2 := Lib.hid hT; clear hT)); have hD5 := HD.out.trans hb5; clear HD; have HD := Lib.hid hD5; clear hD5; have hT7 := HBlk.out _ HD.out; have hlt := block_lt hT7; have x0 : w5.cell? ⟨w.heap.size, 0, none⟩ = some (.string ⟨#[]⟩) := block_cell hT7 0; have z0 : w5.frozen? ⟨w.heap.size, 0, none⟩ = false := block_free hT7 0; have x1 : w5.cell? ⟨w.heap.size, 1, none⟩ = some (.string ⟨#[]⟩) := block_cell hT7 1; have z1 : w5.frozen? ⟨w.heap.size, 1, none⟩ = false := block_free hT7 1; have x2 : w5.cell? ⟨w.heap.size, 2, none⟩ = some (.int .i64 0) := block_cell hT7 2; have z2 : w5.frozen? ⟨w.heap.size, 2, none⟩ = false := block_free hT7 2; have x3 : w5.cell? ⟨w.heap.size, 3, none⟩ = some (.slice none 0 0) := block_cell hT7 3; have z3 : w5.frozen? ⟨w.heap.size, 3, none⟩ = false := block_free hT7 3; clear hT7 hb5 hb5o) | (go_at_call 9; (with_reducible refine (HN2.out _ HD.out).mono ?_); rintro _ w5 ⟨a2, m2, rfl, HA2, hb5, hb5o⟩; (try (have hT := HA0.out.on hb5o; clear HA0; have HA0 := Lib.hid hT; clear hT)); (try (have hT := HA1.out.on hb5o; clear HA1; have HA1 := Lib.hid hT; clear hT)); have hD5 := HD.out.trans hb5; clear HD; have HD := Lib.hid hD5; clear hD5; have hT7 := HBlk.out _ HD.out; have hlt := block_lt hT7; have x0 : w5.cell? ⟨w.heap.size, 0, none⟩ = some (.string ⟨#[]⟩) := block_cell hT7 0; have z0 : w5.frozen? ⟨w.heap.size, 0, none⟩ = false := block_free hT7 0; have x1 : w5.cell? ⟨w.heap.size, 1, none⟩ = some (.string ⟨#[]⟩) := block_cell hT7 1; have z1 : w5.frozen? ⟨w.heap.size, 1, none⟩ = false := block_free hT7 1; have x2 : w5.cell? ⟨w.heap.size, 2, none⟩ = some (.int .i64 0) := block_cell hT7 2; have z2 : w5.frozen? ⟨w.heap.size, 2, none⟩ = false := block_free hT7 2; have x3 : w5.cell? ⟨w.heap.size, 3, none⟩ = some (.slice none 0 0) := block_cell hT7 3; have z3 : w5.frozen? ⟨w.heap.size, 3, none⟩ = false := block_free hT7 3; clear hT7 hb5 hb5o)))
  all_goals
    go_wp2_with fail
    have hD9 := HD.out
    have hT9 := HBlk.out _ hD9
    have hs9 := HSz.out
    have hz9 := hD9.size
    obtain ⟨hP, hPf, hPz⟩ := put4 hT9 (.string ⟨#[105, 102]⟩) (.string ⟨#[]⟩) (.int .i64 0) (.slice (some ⟨w5.heap.size, 0, none⟩) 3 3)
    generalize (((w5.setCell ⟨w.heap.size, 0, none⟩ (.string ⟨#[105, 102]⟩)).setCell ⟨w.heap.size, 1, none⟩ (.string ⟨#[]⟩)).setCell ⟨w.heap.size, 2, none⟩ (.int .i64 0)).setCell ⟨w.heap.size, 3, none⟩ (.slice (some ⟨w5.heap.size, 0, none⟩) 3 3) = W3 at hP hPf hPz ⊢
    have hA0 := (HA0.out.frm hPf (by intro x hx; simp at hx; omega)).mono (ok' := fun g => w.heap.size ≤ g) (fun g hg _ => by omega)
    have hA1 := (HA1.out.frm hPf (by intro x hx; simp at hx; omega)).mono (ok' := fun g => w.heap.size ≤ g) (fun g hg _ => by omega)
    have hA2 := (HA2.out.frm hPf (by intro x hx; simp at hx; omega)).mono (ok' := fun g => w.heap.size ≤ g) (fun g hg _ => by omega)
    have hL := ArgsAt.lit (W := W3) (ok := fun g => w.heap.size ≤ g) (T := 24) [(t0, .slice a0 l0 m0), (t1, .slice a1 l1 m1), (t2, .slice a2 l2 m2)] (by simp) (by show w.heap.size ≤ W3.heap.size; omega) (by
      intro p hp
      simp only [List.mem_cons, List.not_mem_nil, or_false] at hp
      rcases hp with rfl | rfl | rfl
      · exact hA0
      · exact hA1
      · exact hA2) (.cells #[.string (B t0.kind), .string (B t0.name), .int .i64 (t0.n : Int), .slice a0 l0 m0, .string (B t1.kind), .string (B t1.name), .int .i64 (t1.n : Int), .slice a1 l1 m1, .string (B t2.kind), .string (B t2.name), .int .i64 (t2.n : Int), .slice a2 l2 m2] 24) rfl
    have hF : (W3.alloc (.cells #[.string (B t0.kind), .string (B t0.name), .int .i64 (t0.n : Int), .slice a0 l0 m0, .string (B t1.kind), .string (B t1.name), .int .i64 (t1.n : Int), .slice a1 l1 m1, .string (B t2.kind), .string (B t2.name), .int .i64 (t2.n : Int), .slice a2 l2 m2] 24)).heap[w.heap.size]? = some (.cells #[.string ⟨#[105, 102]⟩, .string ⟨#[]⟩, .int .i64 0, .slice (some ⟨w5.heap.size, 0, none⟩) 3 3] 24 (0, 0)) := (Below.heap_alloc _ _ _ (block_lt hP)).trans hP
    have hB : Below w.heap.size w (W3.alloc (.cells #[.string (B t0.kind), .string (B t0.name), .int .i64 (t0.n : Int), .slice a0 l0 m0, .string (B t1.kind), .string (B t1.name), .int .i64 (t1.n : Int), .slice a1 l1 m1, .string (B t2.kind), .string (B t2.name), .int .i64 (t2.n : Int), .slice a2 l2 m2] 24)) := by
      have h1 := HB0.out.trans (hD9.mono HB0.out.size)
      have h2 : Below w.heap.size w W3 := ((Frm.ofBelow h1 []).trans hPf (fun x hx => by right; simp at hx; omega)).below
      exact h2.alloc h2.size _
    rw [hPz] at hL
    generalize W3.alloc (.cells #[.string (B t0.kind), .string (B t0.name), .int .i64 (t0.n : Int), .slice a0 l0 m0, .string (B t1.kind), .string (B t1.name), .int .i64 (t1.n : Int), .slice a1 l1 m1, .string (B t2.kind), .string (B t2.name), .int .i64 (t2.n : Int), .slice a2 l2 m2] 24) = F at hL hF hB ⊢
    have y0 : F.cell? ⟨w.heap.size, 0, none⟩ = some (.string ⟨#[105, 102]⟩) := block_cell hF 0
    have y1 : F.cell? ⟨w.heap.size, 1, none⟩ = some (.string ⟨#[]⟩) := block_cell hF 1
    have y2 : F.cell? ⟨w.heap.size, 2, none⟩ = some (.int .i64 0) := block_cell hF 2
    have y3 : F.cell? ⟨w.heap.size, 3, none⟩ = some (.slice (some ⟨w5.heap.size, 0, none⟩) 3 3) := block_cell hF 3
    exact bodyPost_ret (v := .agg #[.string ⟨#[105, 102]⟩, .string ⟨#[]⟩, .int .i64 0, .slice (some ⟨w5.heap.size, 0, none⟩) 3 3]) (by simp [results, Tryd.results9, go_sem, y0, y1, y2, y3]) rfl ⟨_, rfl, hL, hB⟩

end Go.Proofs.YtfhnjgoipajiaaaDoor.pl
