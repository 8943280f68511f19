/-
  Contract of laws.samePos at two copies of one position. No statement of the seat is proved here.
-/
import Derived.Test.YtfhnjgoipajiaaaDoorPlY
import Derived.Deep.RegionHeld3
namespace Go.Proofs.YtfhnjgoipajiaaaDoor.pl
open Go.RowKit Go.Proofs.YtfhnjgoipajiaaaDoor.gen

def SameRes (w : World) (e : Ending) (w' : World) : Prop := e = .returned (.bool true) ∧ Below w.heap.size w w'

theorem PT.args_lt (t u : PT) (h : u ∈ t.args) : SizeOf.sizeOf u < SizeOf.sizeOf t := by
  cases t with
  | mk k n i a =>
    have h : u ∈ a := h
    have := List.sizeOf_lt_of_mem h
    simp only [PT.mk.sizeOf_spec]
    omega

set_option maxRecDepth 100000 in
set_option maxHeartbeats 2000000 in
theorem samePos_any : ∀ (N : Nat) (t : PT) (ok ok2 : Nat → Prop) (av bv : Value) (w : World), SizeOf.sizeOf t < N → ArgsAt w ok av t.args → ArgsAt w ok2 bv t.args → Calls Tryd.prog 7 #[PTVal t av, PTVal t bv] w (SameRes w) := by
  intro N
  induction N with
  | zero => intro t ok ok2 av bv w h; omega
  | succ N ih =>
    intro t ok ok2 av bv w hN ha hb
    have hlen := ha.small
    obtain ⟨aa, ca, rfl⟩ := ha.shape
    obtain ⟨ab, cb, rfl⟩ := hb.shape
    obtain ⟨n, hn⟩ : ∃ n, t.args.length = n := ⟨_, rfl⟩
    have HA := Lib.hid ha
    have HB := Lib.hid hb
    have HIH := Lib.hid ih
    rw [hn] at HA HB hlen ⊢
    have HN := Lib.hid hn
    clear ha hb ih hn
    unfold PTVal
    go_enter Tryd.func7, Tryd.ntmps7
    have e1 : ∀ (w : World) o, (w.alloc o).heap.size = w.heap.size + 1 := fun w o => by show (w.heap.push _).size = _; rw [Array.size_push]
    have hb0 : Below w.heap.size w ((w.alloc (.cells #[.string (B t.kind), .string (B t.name), .int .i64 (t.n : Int), .slice aa n ca] 24)).alloc (.cells #[.string (B t.kind), .string (B t.name), .int .i64 (t.n : Int), .slice ab n cb] 24)) := ((Below.refl _ _).alloc (Nat.le_refl _) _).alloc (by rw [e1]; omega) _
    have hx0 : ((w.alloc (.cells #[.string (B t.kind), .string (B t.name), .int .i64 (t.n : Int), .slice aa n ca] 24)).alloc (.cells #[.string (B t.kind), .string (B t.name), .int .i64 (t.n : Int), .slice ab n cb] 24)).cell? ⟨w.heap.size, 3, none⟩ = some (.slice aa n ca) := by
      rw [World.cell?_of_block (Below.heap_alloc _ _ _ (by rw [e1]; exact Nat.lt_succ_self _))]
      exact block_cell (heap_alloc_new w _) 3
    have hx1 : ((w.alloc (.cells #[.string (B t.kind), .string (B t.name), .int .i64 (t.n : Int), .slice aa n ca] 24)).alloc (.cells #[.string (B t.kind), .string (B t.name), .int .i64 (t.n : Int), .slice ab n cb] 24)).cell? ⟨w.heap.size + 1, 3, none⟩ = some (.slice ab n cb) := by
      have := block_cell (heap_alloc_new (w.alloc (.cells #[.string (B t.kind), .string (B t.name), .int .i64 (t.n : Int), .slice aa n ca] 24)) (.cells #[.string (B t.kind), .string (B t.name), .int .i64 (t.n : Int), .slice ab n cb] 24)) 3
      rw [e1] at this
      exact this
    have HX0 := Lib.hid hx0
    have HX1 := Lib.hid hx1
    have HB0 := Lib.hid hb0
    clear hb0 hx0 hx1 e1
    go_wp2_with fail
    generalize (w.alloc (.cells #[.string (B t.kind), .string (B t.name), .int .i64 (t.n : Int), .slice aa n ca] 24)).alloc (.cells #[.string (B t.kind), .string (B t.name), .int .i64 (t.n : Int), .slice ab n cb] 24) = W at HX0 HX1 HB0 ⊢
    go_loopg [37] n (fun g' i wr => ∃ k : Nat, g' = n - k ∧ i = .int .i64 k ∧ k ≤ n ∧ Hid (Below W.heap.size W wr))
    case atStart => exact ⟨0, rfl, rfl, Nat.zero_le _, Below.refl _ _⟩
    case round =>
      obtain ⟨k, hg, rfl, hkn, HW⟩ := hrel
      by_cases hlt : k < n
      · obtain ⟨u, hu⟩ : ∃ u, t.args[k]? = some u := ⟨_, List.getElem?_eq_getElem (by have := HN.out; omega)⟩
        have hbw : Below w.heap.size w wr := HB0.out.trans (HW.out.mono HB0.out.size)
        obtain ⟨ga, c1, av, hv1, hg1, ⟨p0, p1, p2, p3⟩, hA1⟩ := (HA.out.on hbw).at_ k u hu
        obtain ⟨gb, c2, bv, hv2, hg2, ⟨r0, r1, r2, r3⟩, hB1⟩ := (HB.out.on hbw).at_ k u hu
        injection hv1 with hv1 hq1 hq2
        injection hv2 with hv2 hq3 hq4
        clear hq1 hq2 hq3 hq4
        subst hv1 hv2
        have y0 : wr.cell? ⟨w.heap.size, 3, none⟩ = some (.slice (some ⟨ga, 0, none⟩) n ca) := (HW.out.cell (World.block_lt_of_cell? _ _ HX0.out)).trans HX0.out
        have y1 : wr.cell? ⟨w.heap.size + 1, 3, none⟩ = some (.slice (some ⟨gb, 0, none⟩) n cb) := (HW.out.cell (World.block_lt_of_cell? _ _ HX1.out)).trans HX1.out
        obtain ⟨a1, m1, rfl⟩ := hA1.shape
        obtain ⟨a2, m2, rfl⟩ := hB1.shape
        have hsz := PT.args_lt t u (List.mem_of_getElem? hu)
        have HC : Hid (∀ W', Below wr.heap.size wr W' → Calls Tryd.prog 7 #[.agg #[.string (B u.kind), .string (B u.name), .int .i64 (u.n : Int), .slice a1 u.args.length m1], .agg #[.string (B u.kind), .string (B u.name), .int .i64 (u.n : Int), .slice a2 u.args.length m2]] W' (SameRes W')) := fun W' hb' => HIH.out u _ _ _ _ W' (by omega) (hA1.on hb') (hB1.on hb')
        obtain ⟨l, hl⟩ : ∃ l, u.args.length = l := ⟨_, rfl⟩
        rw [hl] at HC p3 r3
        have hi0 : (0 : Int) ≤ (k : Int) := by omega
        have hi1 : (k : Int) < (n : Int) := by omega
        have hkw : IntKind.i64.wrap ((k : Int) + 1) = (k : Int) + 1 := IntWalk.i64_in _ (by omega)
        have hkp : ∀ w', Below wr.heap.size wr w' → w'.cell? ⟨w.heap.size, 3, none⟩ = some (.slice (some ⟨ga, 0, none⟩) n ca) ∧ w'.cell? ⟨w.heap.size + 1, 3, none⟩ = some (.slice (some ⟨gb, 0, none⟩) n cb) ∧ w'.cell? ⟨ga, k * 4, none⟩ = some (.string (B u.kind)) ∧ w'.cell? ⟨ga, k * 4 + 1, none⟩ = some (.string (B u.name)) ∧ w'.cell? ⟨ga, k * 4 + 2, none⟩ = some (.int .i64 (u.n : Int)) ∧ w'.cell? ⟨ga, k * 4 + 3, none⟩ = some (.slice a1 l m1) ∧ w'.cell? ⟨gb, k * 4, none⟩ = some (.string (B u.kind)) ∧ w'.cell? ⟨gb, k * 4 + 1, none⟩ = some (.string (B u.name)) ∧ w'.cell? ⟨gb, k * 4 + 2, none⟩ = some (.int .i64 (u.n : Int)) ∧ w'.cell? ⟨gb, k * 4 + 3, none⟩ = some (.slice a2 l m2) := fun w' hb =>
          ⟨(hb.cell (World.block_lt_of_cell? _ _ y0)).trans y0, (hb.cell (World.block_lt_of_cell? _ _ y1)).trans y1, (hb.cell hg1).trans p0, (hb.cell hg1).trans p1, (hb.cell hg1).trans p2, (hb.cell hg1).trans p3, (hb.cell hg2).trans r0, (hb.cell hg2).trans r1, (hb.cell hg2).trans r2, (hb.cell hg2).trans r3⟩
        have HKp := Lib.hid hkp
        have HD := Lib.hid ((Below.refl wr.heap.size wr).drew)
        clear hu hbw hA1 hB1 y0 y1 p0 p1 p2 p3 r0 r1 r2 r3 hkp hl hsz
        go_wp2_with fail
        go_region_held3 (fun w' => w'.cell? ⟨w.heap.size, 3, none⟩ = some (.slice (some ⟨ga, 0, none⟩) n ca) ∧ w'.cell? ⟨w.heap.size + 1, 3, none⟩ = some (.slice (some ⟨gb, 0, none⟩) n cb) ∧ w'.cell? ⟨ga, k * 4, none⟩ = some (.string (B u.kind)) ∧ w'.cell? ⟨ga, k * 4 + 1, none⟩ = some (.string (B u.name)) ∧ w'.cell? ⟨ga, k * 4 + 2, none⟩ = some (.int .i64 (u.n : Int)) ∧ w'.cell? ⟨ga, k * 4 + 3, none⟩ = some (.slice a1 l m1) ∧ w'.cell? ⟨gb, k * 4, none⟩ = some (.string (B u.kind)) ∧ w'.cell? ⟨gb, k * 4 + 1, none⟩ = some (.string (B u.name)) ∧ w'.cell? ⟨gb, k * 4 + 2, none⟩ = some (.int .i64 (u.n : Int)) ∧ w'.cell? ⟨gb, k * 4 + 3, none⟩ = some (.slice a2 l m2)) (exact HKp.out _ HD.out) ((go_at_call 7; (with_reducible refine (HC.out _ HD.out).mono ?_); rintro _ w5 ⟨rfl, hb5⟩; have HD := Lib.hid (HD.out.trans (hb5.mono HD.out.size))))
        have HW5 := Lib.hid (HW.out.trans (HD.out.mono HW.out.size))
        go_wp2_with fail
        go_roundg (n - (k + 1))
        case measure => omega
        case rel => exact ⟨k + 1, rfl, by go_num, by omega, HW5⟩
      · obtain rfl : k = n := by omega
        go_wp2_with fail
        go_ret
        exact ⟨rfl, HB0.out.trans (HW.out.mono HB0.out.size)⟩

end Go.Proofs.YtfhnjgoipajiaaaDoor.pl
