/-
  posOf at the choices. Printed by pos3_gen.py. No statement of the seat is proved here.
-/
import Derived.Test.YtfhnjgoipajiaaaDoorPlYd
import Derived.Deep.LoopGhost
import Derived.Deep.RegionLaw
namespace Go.Proofs.YtfhnjgoipajiaaaDoor.pl
open Go.RowKit Go.Proofs.YtfhnjgoipajiaaaDoor.gen

theorem tq_PosChoice_Var (u : Value) (w : World) : (Instr.typeAssert (.iface 60 u) 49 50 true).run Tryd.prog w = .ok (.tuple #[.pointer none, .bool false]) w := by kernel_rfl
theorem tq_PosChoice_NodePos (u : Value) (w : World) : (Instr.typeAssert (.iface 60 u) 49 53 true).run Tryd.prog w = .ok (.tuple #[.pointer none, .bool false]) w := by kernel_rfl
theorem tq_PosChoice_NodeEnd (u : Value) (w : World) : (Instr.typeAssert (.iface 60 u) 49 58 true).run Tryd.prog w = .ok (.tuple #[.pointer none, .bool false]) w := by kernel_rfl
theorem tq_PosChoice_PosChoice (u : Value) (w : World) : (Instr.typeAssert (.iface 60 u) 49 60 true).run Tryd.prog w = .ok (.tuple #[u, .bool true]) w := by kernel_rfl
set_option maxRecDepth 100000 in
set_option maxHeartbeats 4000000 in
theorem posOf_PosChoice (b g0 n cap : Nat) (ts : List PT) (w : World) (h : w.heap[b]? = some (.cells #[.slice (some ⟨g0, 0, none⟩) n cap] 63 (0, 0))) (hts : ts.length = n) (h0 : 0 < n) (hn : n ≤ 1099511627776)
    (hx : ∀ (k : Nat) t, ts[k]? = some t → ∃ ty p, w.cell? ⟨g0, k, none⟩ = some (.iface ty p) ∧ ∀ W, Below w.heap.size w W → Calls Tryd.prog 9 #[.iface ty p] W (PosRes t W)) : Calls Tryd.prog 9 #[.iface 60 (.pointer (some ⟨b, 0, none⟩))] w (PosRes (.mk [99, 104, 111, 105, 99, 101] [] 0 ts) w) := by
  have hta0 := tq_PosChoice_Var
  have hta1 := tq_PosChoice_NodePos
  have hta2 := tq_PosChoice_NodeEnd
  have hta3 := tq_PosChoice_PosChoice
  obtain ⟨i0, hi0, hz0, hz1, hz2⟩ := info_parts infoPX
  have c0 : w.cell? ⟨b, 0, none⟩ = some (.slice (some ⟨g0, 0, none⟩) n cap) := block_cell h 0
  have hbl := block_lt h
  have e1 : ∀ (w : World) o, (w.alloc o).heap.size = w.heap.size + 1 := fun w o => by show (w.heap.push _).size = _; rw [Array.size_push]
  have hb0 : Below w.heap.size w ((w.alloc (.cells #[.string ⟨#[]⟩, .string ⟨#[]⟩, .int .i64 0, .slice none 0 0] 24)).alloc (.cells #[.string ⟨#[99, 104, 111, 105, 99, 101]⟩, .string ⟨#[]⟩, .int .i64 0, .slice none 0 0] 24)) := ((Below.refl _ _).alloc (Nat.le_refl _) _).alloc (by rw [e1]; omega) _
  have hw2 : ((w.alloc (.cells #[.string ⟨#[]⟩, .string ⟨#[]⟩, .int .i64 0, .slice none 0 0] 24)).alloc (.cells #[.string ⟨#[99, 104, 111, 105, 99, 101]⟩, .string ⟨#[]⟩, .int .i64 0, .slice none 0 0] 24)).heap[w.heap.size]? = some (.cells #[.string ⟨#[]⟩, .string ⟨#[]⟩, .int .i64 0, .slice none 0 0] 24 (0, 0)) := (Below.heap_alloc _ _ _ (by rw [e1]; exact Nat.lt_succ_self _)).trans (heap_alloc_new w _)
  have hw7 : ((w.alloc (.cells #[.string ⟨#[]⟩, .string ⟨#[]⟩, .int .i64 0, .slice none 0 0] 24)).alloc (.cells #[.string ⟨#[99, 104, 111, 105, 99, 101]⟩, .string ⟨#[]⟩, .int .i64 0, .slice none 0 0] 24)).heap[w.heap.size + 1]? = some (.cells #[.string ⟨#[99, 104, 111, 105, 99, 101]⟩, .string ⟨#[]⟩, .int .i64 0, .slice none 0 0] 24 (0, 0)) := by
    have := heap_alloc_new (w.alloc (.cells #[.string ⟨#[]⟩, .string ⟨#[]⟩, .int .i64 0, .slice none 0 0] 24)) (.cells #[.string ⟨#[99, 104, 111, 105, 99, 101]⟩, .string ⟨#[]⟩, .int .i64 0, .slice none 0 0] 24)
    rw [e1] at this
    exact this
  have HC0 : Hid (PRow w ⟨#[99, 104, 111, 105, 99, 101]⟩ ts (.slice none 0 0) [] 0 ((w.alloc (.cells #[.string ⟨#[]⟩, .string ⟨#[]⟩, .int .i64 0, .slice none 0 0] 24)).alloc (.cells #[.string ⟨#[99, 104, 111, 105, 99, 101]⟩, .string ⟨#[]⟩, .int .i64 0, .slice none 0 0] 24))) := PRow.start hb0 hw2 hw7
  have c00 : ((w.alloc (.cells #[.string ⟨#[]⟩, .string ⟨#[]⟩, .int .i64 0, .slice none 0 0] 24)).alloc (.cells #[.string ⟨#[99, 104, 111, 105, 99, 101]⟩, .string ⟨#[]⟩, .int .i64 0, .slice none 0 0] 24)).cell? ⟨b, 0, none⟩ = some (.slice (some ⟨g0, 0, none⟩) n cap) := (hb0.cell hbl).trans c0
  have HX := Lib.hid hx
  have HTs := Lib.hid hts
  clear h hx hts hb0 hw2 hw7 e1
  go_enter Tryd.func9, Tryd.ntmps9
  go_wp2_with fail
  generalize ((w.alloc (.cells #[.string ⟨#[]⟩, .string ⟨#[]⟩, .int .i64 0, .slice none 0 0] 24)).alloc (.cells #[.string ⟨#[99, 104, 111, 105, 99, 101]⟩, .string ⟨#[]⟩, .int .i64 0, .slice none 0 0] 24)) = W at HC0 c00 ⊢
  go_loopg [58] n (fun g' i wr => ∃ (k : Nat) (v : Value) (ps : List (PT × Value)), g' = n - k ∧ i = .int .i64 k ∧ k ≤ n ∧ Hid (PRow w ⟨#[99, 104, 111, 105, 99, 101]⟩ ts v ps k wr))
  case atStart => exact ⟨0, _, _, rfl, rfl, Nat.zero_le _, HC0⟩
  case round =>
    obtain ⟨k, v, ps, hg, rfl, hkn, HC⟩ := hrel
    by_cases hlt : k < n
    · obtain ⟨t, ht⟩ : ∃ t, ts[k]? = some t := ⟨_, List.getElem?_eq_getElem (by have := HTs.out; omega)⟩
      obtain ⟨ty, p, hcell, hcall⟩ := HX.out k t ht
      have q0 : wr.cell? ⟨g0, k, none⟩ = some (.iface ty p) := (HC.out.bel.cell (World.block_lt_of_cell? _ _ hcell)).trans hcell
      have hi1 : (0 : Int) ≤ (k : Int) := by omega
      have hi2 : (k : Int) < (n : Int) := by omega
      have hkw : IntKind.i64.wrap ((k : Int) + 1) = (k : Int) + 1 := IntWalk.i64_in _ (by omega)
      obtain ⟨l, hl⟩ : ∃ l, t.args.length = l := ⟨_, rfl⟩
      have HCall : Hid (∀ W', Below wr.heap.size wr W' → Calls Tryd.prog 9 #[.iface ty p] W' (fun e W2 => ∃ a m, e = .returned (.agg #[.string (B t.kind), .string (B t.name), .int .i64 (t.n : Int), .slice a l m]) ∧ Hid (ArgsAt W2 (fun g => W'.heap.size ≤ g) (.slice a l m) t.args) ∧ Below W'.heap.size W' W2)) := fun W' hb' => (hcall W' (HC.out.bel.trans (hb'.mono HC.out.bel.size))).mono fun e W2 ⟨av, h1, h2, h3⟩ => by
        obtain ⟨a, m, rfl⟩ := h2.shape
        rw [hl] at h1 h2
        exact ⟨a, m, h1, h2, h3⟩
      have x3 : wr.cell? ⟨w.heap.size + 1, 3, none⟩ = some v := block_cell HC.out.t7 3
      have hn9 : k + 1 ≤ maxLen := by unfold maxLen; omega
      have hb9 : (k + 1) * 64 ≤ 140737488355328 := by omega
      have HT := Lib.hid ht
      have HOK : Hid (∀ g, wr.heap.size ≤ g → w.heap.size + 2 ≤ g ∧ v.ownBlock ≠ some g) := HC.out.above
      clear ht hcell hcall hl
      go_wp2_with fail
      go_region_law ((first | (refine step_append_lies _ (by rfl) _ _ _ (by rfl) (w.heap.size + 2) 24 i0 _ 4 64 Tryd.underlying22 hi0 hz0 hz1 hz2 rfl (by omega) v k (prows ps) (by rfl) (HC5.out.own.alloc _) ⟨w5.heap.size, 0, none⟩ 1 1 (prow (t, .slice a l m)) (by rfl) (by rfl) (World.news_of_block (cs := #[.string (B t.kind), .string (B t.name), .int .i64 (t.n : Int), .slice a l m]) (t := 24) (fr := (0, 0)) (heap_alloc_new w5 _)) (by simp [Value.oneCell', prow]) (by omega) hn9 hb9 (by rw [hs5]; exact hb5s) (w5.heap.size + 1) (hs5 _) ?_; intro gg cap7 w7 hown7 hgrow hat hlt7; obtain ⟨hc7, hf7, hL7⟩ := PRow.step HC5.out t (.slice a l m) HT.out (HA5.out.mono (fun g hg _ => HOK.out g hg)) _ hgrow hown7 hat; have HC7 := Lib.hid hL7; clear hL7 hown7 hgrow hat) | (go_simp; go_at_call 9; (with_reducible refine (HCall.out _ (Below.refl _ _).drew).mono ?_); rintro _ w5 ⟨a, m, rfl, HA5, hb5⟩; have HC5 := Lib.hid (HC.out.on ((Below.refl _ _).drew.trans hb5)); have HB5 := Lib.hid hb5; clear hb5; have hs5 : ∀ o, (w5.alloc o).heap.size = w5.heap.size + 1 := fun o => Array.size_push ..; have hb5s : w.heap.size + 2 ≤ w5.heap.size + 1 := (by have h1 := block_lt HC5.out.t7; omega); have y3 : w5.cell? ⟨w.heap.size + 1, 3, none⟩ = some v := block_cell HC5.out.t7 3; have y3a : ∀ o, (w5.alloc o).cell? ⟨w.heap.size + 1, 3, none⟩ = some v := fun o => block_cell (moved HC5.out.t7 ((Below.refl _ _).alloc (Nat.le_refl _) o)) 3; go_wp2_with fail)))
      all_goals
        go_wp2_with fail
        go_roundg (n - (k + 1))
        case measure => omega
        case rel => exact ⟨k + 1, _, _, rfl, by go_num, by omega, HC7⟩
    · obtain rfl : k = n := by omega
      obtain ⟨⟨g7, cap7, rfl⟩, hA, q70, q71, q72, q73, q20, q21, q22, q23, r20, r21, r22, r23⟩ := HC.out.done HTs.out h0 (by omega)
      have HA := Lib.hid hA
      clear hA
      go_wp2_with fail
      obtain ⟨hP, hPf, hPz⟩ := put4 HC.out.t2 (.string ⟨#[99, 104, 111, 105, 99, 101]⟩) (.string ⟨#[]⟩) (.int .i64 0) (.slice (some ⟨g7, 0, none⟩) k cap7)
      have hB : Below w.heap.size w ((((wr.setCell ⟨w.heap.size, 0, none⟩ (.string ⟨#[99, 104, 111, 105, 99, 101]⟩)).setCell ⟨w.heap.size, 1, none⟩ (.string ⟨#[]⟩)).setCell ⟨w.heap.size, 2, none⟩ (.int .i64 0)).setCell ⟨w.heap.size, 3, none⟩ (.slice (some ⟨g7, 0, none⟩) k cap7)) := ((Frm.ofBelow HC.out.bel []).trans hPf (fun x hx => by right; simp at hx; omega)).below
      have hA9 := (HA.out.frm hPf (by intro x hx; simp at hx; omega)).mono (ok' := fun g => w.heap.size ≤ g) (fun g hg _ => by omega)
      generalize (((wr.setCell ⟨w.heap.size, 0, none⟩ (.string ⟨#[99, 104, 111, 105, 99, 101]⟩)).setCell ⟨w.heap.size, 1, none⟩ (.string ⟨#[]⟩)).setCell ⟨w.heap.size, 2, none⟩ (.int .i64 0)).setCell ⟨w.heap.size, 3, none⟩ (.slice (some ⟨g7, 0, none⟩) k cap7) = F at hP hB hA9 ⊢
      have y0 : F.cell? ⟨w.heap.size, 0, none⟩ = some (.string ⟨#[99, 104, 111, 105, 99, 101]⟩) := block_cell hP 0
      have y1 : F.cell? ⟨w.heap.size, 1, none⟩ = some (.string ⟨#[]⟩) := block_cell hP 1
      have y2 : F.cell? ⟨w.heap.size, 2, none⟩ = some (.int .i64 0) := block_cell hP 2
      have y3 : F.cell? ⟨w.heap.size, 3, none⟩ = some (.slice (some ⟨g7, 0, none⟩) k cap7) := block_cell hP 3
      exact bodyPost_ret (v := .agg #[.string ⟨#[99, 104, 111, 105, 99, 101]⟩, .string ⟨#[]⟩, .int .i64 0, (.slice (some ⟨g7, 0, none⟩) k cap7)]) (by simp [results, Tryd.results9, go_sem, y0, y1, y2, y3]) rfl ⟨_, rfl, hA9, hB⟩

theorem tq_NodeChoice_Var (u : Value) (w : World) : (Instr.typeAssert (.iface 64 u) 49 50 true).run Tryd.prog w = .ok (.tuple #[.pointer none, .bool false]) w := by kernel_rfl
theorem tq_NodeChoice_NodePos (u : Value) (w : World) : (Instr.typeAssert (.iface 64 u) 49 53 true).run Tryd.prog w = .ok (.tuple #[.pointer none, .bool false]) w := by kernel_rfl
theorem tq_NodeChoice_NodeEnd (u : Value) (w : World) : (Instr.typeAssert (.iface 64 u) 49 58 true).run Tryd.prog w = .ok (.tuple #[.pointer none, .bool false]) w := by kernel_rfl
theorem tq_NodeChoice_PosChoice (u : Value) (w : World) : (Instr.typeAssert (.iface 64 u) 49 60 true).run Tryd.prog w = .ok (.tuple #[.pointer none, .bool false]) w := by kernel_rfl
theorem tq_NodeChoice_NodeChoice (u : Value) (w : World) : (Instr.typeAssert (.iface 64 u) 49 64 true).run Tryd.prog w = .ok (.tuple #[u, .bool true]) w := by kernel_rfl
set_option maxRecDepth 100000 in
set_option maxHeartbeats 4000000 in
theorem posOf_NodeChoice (b g0 n cap : Nat) (ts : List PT) (w : World) (h : w.heap[b]? = some (.cells #[.slice (some ⟨g0, 0, none⟩) n cap] 67 (0, 0))) (hts : ts.length = n) (h0 : 0 < n) (hn : n ≤ 1099511627776)
    (hx : ∀ (k : Nat) t, ts[k]? = some t → ∃ ty p, w.cell? ⟨g0, k, none⟩ = some (.iface ty p) ∧ ∀ W, Below w.heap.size w W → Calls Tryd.prog 9 #[.iface ty p] W (PosRes t W)) : Calls Tryd.prog 9 #[.iface 64 (.pointer (some ⟨b, 0, none⟩))] w (PosRes (.mk [110, 111, 100, 101, 115] [] 0 ts) w) := by
  have hta0 := tq_NodeChoice_Var
  have hta1 := tq_NodeChoice_NodePos
  have hta2 := tq_NodeChoice_NodeEnd
  have hta3 := tq_NodeChoice_PosChoice
  have hta4 := tq_NodeChoice_NodeChoice
  obtain ⟨i0, hi0, hz0, hz1, hz2⟩ := info_parts infoPX
  have c0 : w.cell? ⟨b, 0, none⟩ = some (.slice (some ⟨g0, 0, none⟩) n cap) := block_cell h 0
  have hbl := block_lt h
  have e1 : ∀ (w : World) o, (w.alloc o).heap.size = w.heap.size + 1 := fun w o => by show (w.heap.push _).size = _; rw [Array.size_push]
  have hb0 : Below w.heap.size w ((w.alloc (.cells #[.string ⟨#[]⟩, .string ⟨#[]⟩, .int .i64 0, .slice none 0 0] 24)).alloc (.cells #[.string ⟨#[110, 111, 100, 101, 115]⟩, .string ⟨#[]⟩, .int .i64 0, .slice none 0 0] 24)) := ((Below.refl _ _).alloc (Nat.le_refl _) _).alloc (by rw [e1]; omega) _
  have hw2 : ((w.alloc (.cells #[.string ⟨#[]⟩, .string ⟨#[]⟩, .int .i64 0, .slice none 0 0] 24)).alloc (.cells #[.string ⟨#[110, 111, 100, 101, 115]⟩, .string ⟨#[]⟩, .int .i64 0, .slice none 0 0] 24)).heap[w.heap.size]? = some (.cells #[.string ⟨#[]⟩, .string ⟨#[]⟩, .int .i64 0, .slice none 0 0] 24 (0, 0)) := (Below.heap_alloc _ _ _ (by rw [e1]; exact Nat.lt_succ_self _)).trans (heap_alloc_new w _)
  have hw7 : ((w.alloc (.cells #[.string ⟨#[]⟩, .string ⟨#[]⟩, .int .i64 0, .slice none 0 0] 24)).alloc (.cells #[.string ⟨#[110, 111, 100, 101, 115]⟩, .string ⟨#[]⟩, .int .i64 0, .slice none 0 0] 24)).heap[w.heap.size + 1]? = some (.cells #[.string ⟨#[110, 111, 100, 101, 115]⟩, .string ⟨#[]⟩, .int .i64 0, .slice none 0 0] 24 (0, 0)) := by
    have := heap_alloc_new (w.alloc (.cells #[.string ⟨#[]⟩, .string ⟨#[]⟩, .int .i64 0, .slice none 0 0] 24)) (.cells #[.string ⟨#[110, 111, 100, 101, 115]⟩, .string ⟨#[]⟩, .int .i64 0, .slice none 0 0] 24)
    rw [e1] at this
    exact this
  have HC0 : Hid (PRow w ⟨#[110, 111, 100, 101, 115]⟩ ts (.slice none 0 0) [] 0 ((w.alloc (.cells #[.string ⟨#[]⟩, .string ⟨#[]⟩, .int .i64 0, .slice none 0 0] 24)).alloc (.cells #[.string ⟨#[110, 111, 100, 101, 115]⟩, .string ⟨#[]⟩, .int .i64 0, .slice none 0 0] 24))) := PRow.start hb0 hw2 hw7
  have c00 : ((w.alloc (.cells #[.string ⟨#[]⟩, .string ⟨#[]⟩, .int .i64 0, .slice none 0 0] 24)).alloc (.cells #[.string ⟨#[110, 111, 100, 101, 115]⟩, .string ⟨#[]⟩, .int .i64 0, .slice none 0 0] 24)).cell? ⟨b, 0, none⟩ = some (.slice (some ⟨g0, 0, none⟩) n cap) := (hb0.cell hbl).trans c0
  have HX := Lib.hid hx
  have HTs := Lib.hid hts
  clear h hx hts hb0 hw2 hw7 e1
  go_enter Tryd.func9, Tryd.ntmps9
  go_wp2_with fail
  generalize ((w.alloc (.cells #[.string ⟨#[]⟩, .string ⟨#[]⟩, .int .i64 0, .slice none 0 0] 24)).alloc (.cells #[.string ⟨#[110, 111, 100, 101, 115]⟩, .string ⟨#[]⟩, .int .i64 0, .slice none 0 0] 24)) = W at HC0 c00 ⊢
  go_loopg [80] n (fun g' i wr => ∃ (k : Nat) (v : Value) (ps : List (PT × Value)), g' = n - k ∧ i = .int .i64 k ∧ k ≤ n ∧ Hid (PRow w ⟨#[110, 111, 100, 101, 115]⟩ ts v ps k wr))
  case atStart => exact ⟨0, _, _, rfl, rfl, Nat.zero_le _, HC0⟩
  case round =>
    obtain ⟨k, v, ps, hg, rfl, hkn, HC⟩ := hrel
    by_cases hlt : k < n
    · obtain ⟨t, ht⟩ : ∃ t, ts[k]? = some t := ⟨_, List.getElem?_eq_getElem (by have := HTs.out; omega)⟩
      obtain ⟨ty, p, hcell, hcall⟩ := HX.out k t ht
      have q0 : wr.cell? ⟨g0, k, none⟩ = some (.iface ty p) := (HC.out.bel.cell (World.block_lt_of_cell? _ _ hcell)).trans hcell
      have hi1 : (0 : Int) ≤ (k : Int) := by omega
      have hi2 : (k : Int) < (n : Int) := by omega
      have hkw : IntKind.i64.wrap ((k : Int) + 1) = (k : Int) + 1 := IntWalk.i64_in _ (by omega)
      obtain ⟨l, hl⟩ : ∃ l, t.args.length = l := ⟨_, rfl⟩
      have HCall : Hid (∀ W', Below wr.heap.size wr W' → Calls Tryd.prog 9 #[.iface ty p] W' (fun e W2 => ∃ a m, e = .returned (.agg #[.string (B t.kind), .string (B t.name), .int .i64 (t.n : Int), .slice a l m]) ∧ Hid (ArgsAt W2 (fun g => W'.heap.size ≤ g) (.slice a l m) t.args) ∧ Below W'.heap.size W' W2)) := fun W' hb' => (hcall W' (HC.out.bel.trans (hb'.mono HC.out.bel.size))).mono fun e W2 ⟨av, h1, h2, h3⟩ => by
        obtain ⟨a, m, rfl⟩ := h2.shape
        rw [hl] at h1 h2
        exact ⟨a, m, h1, h2, h3⟩
      have x3 : wr.cell? ⟨w.heap.size + 1, 3, none⟩ = some v := block_cell HC.out.t7 3
      have hn9 : k + 1 ≤ maxLen := by unfold maxLen; omega
      have hb9 : (k + 1) * 64 ≤ 140737488355328 := by omega
      have HT := Lib.hid ht
      have HOK : Hid (∀ g, wr.heap.size ≤ g → w.heap.size + 2 ≤ g ∧ v.ownBlock ≠ some g) := HC.out.above
      clear ht hcell hcall hl
      go_wp2_with fail
      go_region_law ((first | (refine step_append_lies _ (by rfl) _ _ _ (by rfl) (w.heap.size + 2) 24 i0 _ 4 64 Tryd.underlying22 hi0 hz0 hz1 hz2 rfl (by omega) v k (prows ps) (by rfl) (HC5.out.own.alloc _) ⟨w5.heap.size, 0, none⟩ 1 1 (prow (t, .slice a l m)) (by rfl) (by rfl) (World.news_of_block (cs := #[.string (B t.kind), .string (B t.name), .int .i64 (t.n : Int), .slice a l m]) (t := 24) (fr := (0, 0)) (heap_alloc_new w5 _)) (by simp [Value.oneCell', prow]) (by omega) hn9 hb9 (by rw [hs5]; exact hb5s) (w5.heap.size + 1) (hs5 _) ?_; intro gg cap7 w7 hown7 hgrow hat hlt7; obtain ⟨hc7, hf7, hL7⟩ := PRow.step HC5.out t (.slice a l m) HT.out (HA5.out.mono (fun g hg _ => HOK.out g hg)) _ hgrow hown7 hat; have HC7 := Lib.hid hL7; clear hL7 hown7 hgrow hat) | (go_simp; go_at_call 9; (with_reducible refine (HCall.out _ (Below.refl _ _).drew).mono ?_); rintro _ w5 ⟨a, m, rfl, HA5, hb5⟩; have HC5 := Lib.hid (HC.out.on ((Below.refl _ _).drew.trans hb5)); have HB5 := Lib.hid hb5; clear hb5; have hs5 : ∀ o, (w5.alloc o).heap.size = w5.heap.size + 1 := fun o => Array.size_push ..; have hb5s : w.heap.size + 2 ≤ w5.heap.size + 1 := (by have h1 := block_lt HC5.out.t7; omega); have y3 : w5.cell? ⟨w.heap.size + 1, 3, none⟩ = some v := block_cell HC5.out.t7 3; have y3a : ∀ o, (w5.alloc o).cell? ⟨w.heap.size + 1, 3, none⟩ = some v := fun o => block_cell (moved HC5.out.t7 ((Below.refl _ _).alloc (Nat.le_refl _) o)) 3; go_wp2_with fail)))
      all_goals
        go_wp2_with fail
        go_roundg (n - (k + 1))
        case measure => omega
        case rel => exact ⟨k + 1, _, _, rfl, by go_num, by omega, HC7⟩
    · obtain rfl : k = n := by omega
      obtain ⟨⟨g7, cap7, rfl⟩, hA, q70, q71, q72, q73, q20, q21, q22, q23, r20, r21, r22, r23⟩ := HC.out.done HTs.out h0 (by omega)
      have HA := Lib.hid hA
      clear hA
      go_wp2_with fail
      obtain ⟨hP, hPf, hPz⟩ := put4 HC.out.t2 (.string ⟨#[110, 111, 100, 101, 115]⟩) (.string ⟨#[]⟩) (.int .i64 0) (.slice (some ⟨g7, 0, none⟩) k cap7)
      have hB : Below w.heap.size w ((((wr.setCell ⟨w.heap.size, 0, none⟩ (.string ⟨#[110, 111, 100, 101, 115]⟩)).setCell ⟨w.heap.size, 1, none⟩ (.string ⟨#[]⟩)).setCell ⟨w.heap.size, 2, none⟩ (.int .i64 0)).setCell ⟨w.heap.size, 3, none⟩ (.slice (some ⟨g7, 0, none⟩) k cap7)) := ((Frm.ofBelow HC.out.bel []).trans hPf (fun x hx => by right; simp at hx; omega)).below
      have hA9 := (HA.out.frm hPf (by intro x hx; simp at hx; omega)).mono (ok' := fun g => w.heap.size ≤ g) (fun g hg _ => by omega)
      generalize (((wr.setCell ⟨w.heap.size, 0, none⟩ (.string ⟨#[110, 111, 100, 101, 115]⟩)).setCell ⟨w.heap.size, 1, none⟩ (.string ⟨#[]⟩)).setCell ⟨w.heap.size, 2, none⟩ (.int .i64 0)).setCell ⟨w.heap.size, 3, none⟩ (.slice (some ⟨g7, 0, none⟩) k cap7) = F at hP hB hA9 ⊢
      have y0 : F.cell? ⟨w.heap.size, 0, none⟩ = some (.string ⟨#[110, 111, 100, 101, 115]⟩) := block_cell hP 0
      have y1 : F.cell? ⟨w.heap.size, 1, none⟩ = some (.string ⟨#[]⟩) := block_cell hP 1
      have y2 : F.cell? ⟨w.heap.size, 2, none⟩ = some (.int .i64 0) := block_cell hP 2
      have y3 : F.cell? ⟨w.heap.size, 3, none⟩ = some (.slice (some ⟨g7, 0, none⟩) k cap7) := block_cell hP 3
      exact bodyPost_ret (v := .agg #[.string ⟨#[110, 111, 100, 101, 115]⟩, .string ⟨#[]⟩, .int .i64 0, (.slice (some ⟨g7, 0, none⟩) k cap7)]) (by simp [results, Tryd.results9, go_sem, y0, y1, y2, y3]) rfl ⟨_, rfl, hA9, hB⟩

end Go.Proofs.YtfhnjgoipajiaaaDoor.pl
