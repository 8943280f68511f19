/-
  A list of positions that grows: what posOf holds in its loops. No statement of the seat is proved here.
-/
import Derived.Test.YtfhnjgoipajiaaaDoorPlYa
import Derived.Deep.AppendLies
import Derived.Laws.OwnMore
namespace Go.Proofs.YtfhnjgoipajiaaaDoor.pl
open Go.RowKit Go.Proofs.YtfhnjgoipajiaaaDoor.gen

theorem infoPX : (Tryd.prog.info? 24).map (fun i => (i.zero, i.size, i.bytes)) = some (some (.agg #[.string ⟨#[]⟩, .string ⟨#[]⟩, .int .i64 0, .slice none 0 0]), 4, 64) := by kernel_rfl

/-- The first k of the positions ts have been appended; the row is v, its parts ps. -/
structure PRow (w : World) (hd : ByteArray) (ts : List PT) (v : Value) (ps : List (PT × Value)) (k : Nat) (wr : World) : Prop where
  bel : Below w.heap.size w wr
  t2 : wr.heap[w.heap.size]? = some (.cells #[.string ⟨#[]⟩, .string ⟨#[]⟩, .int .i64 0, .slice none 0 0] 24 (0, 0))
  t7 : wr.heap[w.heap.size + 1]? = some (.cells #[.string hd, .string ⟨#[]⟩, .int .i64 0, v] 24 (0, 0))
  own : wr.ownsRow (w.heap.size + 2) 24 4 v k (prows ps)
  num : ps.map (·.1) = ts.take k
  args : ∀ p ∈ ps, ArgsAt wr (fun g => w.heap.size + 2 ≤ g ∧ v.ownBlock ≠ some g) p.2 p.1.args

theorem PRow.start {w wr : World} {hd : ByteArray} {ts : List PT} (h1 : Below w.heap.size w wr) (h2 : wr.heap[w.heap.size]? = some (.cells #[.string ⟨#[]⟩, .string ⟨#[]⟩, .int .i64 0, .slice none 0 0] 24 (0, 0)))
    (h3 : wr.heap[w.heap.size + 1]? = some (.cells #[.string hd, .string ⟨#[]⟩, .int .i64 0, .slice none 0 0] 24 (0, 0))) : PRow w hd ts (.slice none 0 0) [] 0 wr :=
  ⟨h1, h2, h3, World.ownsRow_nil _ _ _ _, by simp, by simp⟩

theorem PRow.on {w wr w5 : World} {hd : ByteArray} {ts : List PT} {v : Value} {ps : List (PT × Value)} {k : Nat} (h : PRow w hd ts v ps k wr) (hb : Below wr.heap.size wr w5) : PRow w hd ts v ps k w5 :=
  ⟨h.bel.trans (hb.mono h.bel.size), moved h.t2 hb, moved h.t7 hb, ownsRow_frm h.own (Frm.ofBelow hb []) (by simp), h.num, fun p hp => (h.args p hp).on hb⟩

theorem PRow.above {w wr : World} {hd : ByteArray} {ts : List PT} {v : Value} {ps : List (PT × Value)} {k : Nat} (h : PRow w hd ts v ps k wr) (g : Nat) (hg : wr.heap.size ≤ g) : w.heap.size + 2 ≤ g ∧ v.ownBlock ≠ some g := by
  have h1 := block_lt h.t7
  refine ⟨by omega, fun e => ?_⟩
  have := (h.own.lt g e).2
  omega

theorem prows_snoc (l : List (PT × Value)) (p : PT × Value) : prows (l ++ [p]) = prows l ++ prow p := by simp [prows]

theorem PRow.more {w w6 w7 : World} {hd : ByteArray} {ts : List PT} {v : Value} {ps : List (PT × Value)} {k g cap : Nat} (h : PRow w hd ts v ps k w6) (t : PT) (av : Value) (ht : ts[k]? = some t)
    (ha : ArgsAt w6 (fun g => w.heap.size + 2 ≤ g ∧ v.ownBlock ≠ some g) av t.args) (hg : w6.grownBy w7 v.ownBlock)
    (ho : w7.ownsRow (w.heap.size + 2) 24 4 (.slice (some ⟨g, 0, none⟩) (k + 1) cap) (k + 1) (prows ps ++ prow (t, av))) (hat : v.ownBlock = some g ∨ w6.heap.size ≤ g) :
    w7.cell? ⟨w.heap.size + 1, 3, none⟩ = some v ∧ w7.frozen? ⟨w.heap.size + 1, 3, none⟩ = false ∧ PRow w hd ts (.slice (some ⟨g, 0, none⟩) (k + 1) cap) (ps ++ [(t, av)]) (k + 1) (w7.setCell ⟨w.heap.size + 1, 3, none⟩ (.slice (some ⟨g, 0, none⟩) (k + 1) cap)) := by
  have hlt := h.own.lt
  have f1 : Frm w6 w7 ((w.heap.size + 1) :: v.ownBlock.toList) := Frm.grown hg fun x hx => .inl (by rw [hx]; simp)
  have f0 : Frm w6 w7 v.ownBlock.toList := Frm.grown hg fun x hx => .inl (by rw [hx]; simp)
  have f2 := f1.setCell ⟨w.heap.size + 1, 3, none⟩ (.slice (some ⟨g, 0, none⟩) (k + 1) cap) (.inl (by simp))
  have hm : ∀ x, x ∈ v.ownBlock.toList → w.heap.size + 2 ≤ x ∧ x < w6.heap.size := fun x hx => hlt x (by simpa using hx)
  have h7 : w7.heap[w.heap.size + 1]? = some (.cells #[.string hd, .string ⟨#[]⟩, .int .i64 0, v] 24 (0, 0)) := (f0.block _ (block_lt h.t7) (fun hx => by have := hm _ hx; omega)).trans h.t7
  have key : ∀ (u : Value) (l : List PT), ArgsAt w6 (fun g => w.heap.size + 2 ≤ g ∧ v.ownBlock ≠ some g) u l → ArgsAt (w7.setCell ⟨w.heap.size + 1, 3, none⟩ (.slice (some ⟨g, 0, none⟩) (k + 1) cap)) (fun x => w.heap.size + 2 ≤ x ∧ (Value.slice (some ⟨g, 0, none⟩) (k + 1) cap).ownBlock ≠ some x) u l := by
    intro u l hu
    have h1 : ArgsAt w6 (fun x => (w.heap.size + 2 ≤ x ∧ v.ownBlock ≠ some x) ∧ x < w6.heap.size) u l := hu.mono fun x hx hl => ⟨hx, hl⟩
    refine (h1.frm f2 ?_).mono ?_
    · intro x hx hok
      rcases List.mem_cons.1 hx with rfl | hx
      · have := hok.1.1; omega
      · exact hok.1.2 (by simpa using hx)
    · intro x hx _
      refine ⟨hx.1.1, fun e => ?_⟩
      have e : g = x := by simpa [Value.ownBlock] using e
      subst e
      rcases hat with hat | hat
      · exact hx.1.2 hat
      · have := hx.2; omega
  refine ⟨block_cell h7 3, block_free h7 3, ?_, ?_, block_set (i := 3) h7 _, ?_, ?_, ?_⟩
  · refine ((Frm.ofBelow h.bel []).trans f2 (fun x hx => .inr ?_)).below
    rcases List.mem_cons.1 hx with rfl | hx
    · omega
    · have := hm x hx; omega
  · refine (f2.block _ (block_lt h.t2) (fun hx => ?_)).trans h.t2
    rcases List.mem_cons.1 hx with hx | hx
    · omega
    · have := hm _ hx; omega
  · rw [prows_snoc]
    exact ownsRow_frm (S := [w.heap.size + 1]) ho ((Frm.refl w7 [w.heap.size + 1]).setCell _ _ (.inl (by simp))) (by intro x hx; simp at hx; omega)
  · rw [List.map_append, h.num, List.take_add_one, ht]; rfl
  · intro p hp
    rcases List.mem_append.1 hp with hp | hp
    · exact key _ _ (h.args p hp)
    · simp at hp; subst hp; exact key _ _ ha

theorem PRow.step {w w5 w7 : World} {hd : ByteArray} {ts : List PT} {v : Value} {ps : List (PT × Value)} {k g cap : Nat} (h : PRow w hd ts v ps k w5) (t : PT) (av : Value) (ht : ts[k]? = some t)
    (ha : ArgsAt w5 (fun g => w.heap.size + 2 ≤ g ∧ v.ownBlock ≠ some g) av t.args) (o : Obj) (hg : (w5.alloc o).grownBy w7 v.ownBlock)
    (ho : w7.ownsRow (w.heap.size + 2) 24 4 (.slice (some ⟨g, 0, none⟩) (k + 1) cap) (k + 1) (prows ps ++ prow (t, av))) (hat : v.ownBlock = some g ∨ g = w5.heap.size + 1) :
    w7.cell? ⟨w.heap.size + 1, 3, none⟩ = some v ∧ w7.frozen? ⟨w.heap.size + 1, 3, none⟩ = false ∧ PRow w hd ts (.slice (some ⟨g, 0, none⟩) (k + 1) cap) (ps ++ [(t, av)]) (k + 1) (w7.setCell ⟨w.heap.size + 1, 3, none⟩ (.slice (some ⟨g, 0, none⟩) (k + 1) cap)) := by
  have hb : Below w5.heap.size w5 (w5.alloc o) := (Below.refl _ _).alloc (Nat.le_refl _) o
  refine (h.on hb).more t av ht (ha.on hb) hg ho (hat.imp id fun e => ?_)
  show (w5.heap.push _).size ≤ g
  rw [Array.size_push]; omega

/-- All have been appended. -/
theorem PRow.done {w wr : World} {hd : ByteArray} {ts : List PT} {v : Value} {ps : List (PT × Value)} {n : Nat} (h : PRow w hd ts v ps n wr) (hn : ts.length = n) (h0 : 0 < n) (hz : n ≤ 1099511627776) :
    (∃ g cap, v = .slice (some ⟨g, 0, none⟩) n cap) ∧ ArgsAt wr (fun g => w.heap.size + 1 ≤ g) v ts ∧ wr.cell? ⟨w.heap.size + 1, 0, none⟩ = some (.string hd) ∧ wr.cell? ⟨w.heap.size + 1, 1, none⟩ = some (.string ⟨#[]⟩) ∧ wr.cell? ⟨w.heap.size + 1, 2, none⟩ = some (.int .i64 0) ∧ wr.cell? ⟨w.heap.size + 1, 3, none⟩ = some v ∧
      wr.cell? ⟨w.heap.size, 0, none⟩ = some (.string ⟨#[]⟩) ∧ wr.cell? ⟨w.heap.size, 1, none⟩ = some (.string ⟨#[]⟩) ∧ wr.cell? ⟨w.heap.size, 2, none⟩ = some (.int .i64 0) ∧ wr.cell? ⟨w.heap.size, 3, none⟩ = some (.slice none 0 0) ∧
      wr.frozen? ⟨w.heap.size, 0, none⟩ = false ∧ wr.frozen? ⟨w.heap.size, 1, none⟩ = false ∧ wr.frozen? ⟨w.heap.size, 2, none⟩ = false ∧ wr.frozen? ⟨w.heap.size, 3, none⟩ = false := by
  refine ⟨?_, ?_, block_cell h.t7 0, block_cell h.t7 1, block_cell h.t7 2, block_cell h.t7 3, block_cell h.t2 0, block_cell h.t2 1, block_cell h.t2 2, block_cell h.t2 3, block_free h.t2 0, block_free h.t2 1, block_free h.t2 2, block_free h.t2 3⟩
  · obtain ⟨g, cap, h1, _⟩ := h.own.form h0
    exact ⟨g, cap, h1⟩
  obtain ⟨g, cap, rfl, hb, hlt⟩ := h.own.form h0
  have hp : ps.map (·.1) = ts := by rw [h.num, ← hn, List.take_length]
  have get : ∀ (k : Nat) t, ts[k]? = some t → ∃ p, ps[k]? = some p ∧ p.1 = t := by
    intro k t hk
    rw [← hp, List.getElem?_map] at hk
    cases hq : ps[k]? with
    | none => rw [hq] at hk; cases hk
    | some p => rw [hq] at hk; exact ⟨p, rfl, by simpa using hk⟩
  have hlt2 : ∀ (k : Nat) t, ts[k]? = some t → k < n := by
    intro k t hk
    rcases Nat.lt_or_ge k n with h' | h'
    · exact h'
    · rw [List.getElem?_eq_none (by omega)] at hk; cases hk
  have h1 : ∀ (k : Nat) t, ts[k]? = some t → wr.cell? ⟨g, k * 4, none⟩ = some (.string (B t.kind)) ∧ wr.cell? ⟨g, k * 4 + 1, none⟩ = some (.string (B t.name)) ∧ wr.cell? ⟨g, k * 4 + 2, none⟩ = some (.int .i64 (t.n : Int)) ∧ wr.cell? ⟨g, k * 4 + 3, none⟩ = some ((ps[k]?.map (·.2)).getD .nilIface) := by
    intro k t hk
    have hkn := hlt2 k t hk
    obtain ⟨p, hq, rfl⟩ := get k t hk
    have hc : ∀ j, j < 4 → wr.cell? ⟨g, k * 4 + j, none⟩ = (prow p)[j]? := fun j hj => by
      rw [h.own.cellAt (k * 4 + j) (by omega)]
      exact prows_at ps k p hq j hj
    have h0 := hc 0 (by omega)
    rw [Nat.add_zero] at h0
    rw [hq]
    exact ⟨h0, hc 1 (by omega), hc 2 (by omega), hc 3 (by omega)⟩
  have h2 : ∀ (k : Nat) t, ts[k]? = some t → ArgsAt wr (fun g => w.heap.size + 1 ≤ g) ((ps[k]?.map (·.2)).getD .nilIface) t.args := by
    intro k t hk
    obtain ⟨p, hq, rfl⟩ := get k t hk
    rw [hq]
    exact (h.args p (List.mem_of_getElem? hq)).mono fun x hx _ => by have := hx.1; omega
  have h3 := ArgsAt.row (w := wr) (ok := fun g => w.heap.size + 1 ≤ g) g cap ts (fun k => (ps[k]?.map (·.2)).getD .nilIface) (by show w.heap.size + 1 ≤ g; omega) hlt (by omega) h1 h2
  rw [hn] at h3
  exact h3

end Go.Proofs.YtfhnjgoipajiaaaDoor.pl
