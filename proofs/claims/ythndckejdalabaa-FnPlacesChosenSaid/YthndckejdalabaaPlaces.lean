/-
  PROVED: 'laws.FnPlacesChosen' returns true for every list of places and every two integers, and leaves its arguments as they were. Conditions: none.
-/
import Derived.Test.YthndckejdalabaaRows
import Derived.WalkKit
import Derived.ProofKit
import Derived.OpenShut
import Derived.ShutString
import Derived.ChangeOld
import Derived.Below
import Derived.Test.YthndckejdalabaaPlacesU
namespace Go.Proofs.Ythndckejdalabaa.fnPlacesChosen
open Go.ChangeShapes Go.WideShapes Go.ChangeAt Go.RowKit
open Go.ChangeMaps (open_string shut_string)
set_option linter.unusedVariables false

theorem own : ownKnob Try.prog.godebug = none := by kernel_rfl
theorem laidOut : laidOutB Try.prog = true := by kernel_rfl

/-- WHAT THE WALK IS TOLD OF A SLICE OF INTEGERS THAT CAME IN: it is nil; or it leads to a row of 'cap' cells, the numbers 'zs' (the first 'len' are its elements, the rest its spare room), each fitting its kind. -/
def IsRow (k : IntKind) (w : World) (a : Option Addr) (len cap : Nat) (zs : List Int) : Prop :=
  (a = none ∧ len = 0 ∧ cap = 0 ∧ zs = []) ∨
  ∃ x, a = some x ∧ len ≤ cap ∧ cap ≤ maxLen ∧ zs.length = cap ∧ (∀ i, i < zs.length → w.cell? (x.add i) = some (.int k (zs.getD i 0))) ∧ ∀ n ∈ zs, (Lit.int k n).wf = true

open Go.Proofs.Ythndckejdalabaa.places

theorem walk_long (a0 : Option Addr) (len0 cap0 : Nat) (a1 a2 : Int) (w : World) (h : 16384 < len0) (hm : len0 ≤ 9223372036854775807) :
    Calls Try.prog 4 #[.slice a0 len0 cap0, .int .i64 a1, .int .i64 a2] w fun e w' => e = .returned (.bool true) ∧ w = w' := by
  by_cases h1 : 2147483647 < len0
  · go_enter Try.func4, Try.ntmps4
    go_wp2
    go_ret
    exact ⟨rfl, rfl⟩
  · go_enter Try.func4, Try.ntmps4
    go_wp2
    go_ret
    exact ⟨rfl, rfl⟩

theorem walk_far (a0 : Option Addr) (len0 cap0 : Nat) (a1 a2 : Int) (w : World) (hl : len0 ≤ 16384) (h : 1099511627776 < a1) :
    Calls Try.prog 4 #[.slice a0 len0 cap0, .int .i64 a1, .int .i64 a2] w fun e w' => e = .returned (.bool true) ∧ w = w' := by
  go_enter Try.func4, Try.ntmps4
  go_wp2
  go_ret
  exact ⟨rfl, rfl⟩

theorem walk_neg (a0 : Option Addr) (len0 cap0 : Nat) (a1 a2 : Int) (w : World) (hl : len0 ≤ 16384) (h : a1 ≤ 1099511627776) (h2 : a2 < 0) :
    Calls Try.prog 4 #[.slice a0 len0 cap0, .int .i64 a1, .int .i64 a2] w fun e w' => e = .returned (.bool true) ∧ w = w' := by
  go_enter Try.func4, Try.ntmps4
  go_wp2
  go_ret
  exact ⟨rfl, rfl⟩

theorem walk_wide (a0 : Option Addr) (len0 cap0 : Nat) (a1 a2 : Int) (w : World) (hl : len0 ≤ 16384) (h : a1 ≤ 1099511627776) (h2 : 1099511627776 < a2) :
    Calls Try.prog 4 #[.slice a0 len0 cap0, .int .i64 a1, .int .i64 a2] w fun e w' => e = .returned (.bool true) ∧ w = w' := by
  go_enter Try.func4, Try.ntmps4
  go_wp2
  go_ret
  exact ⟨rfl, rfl⟩

theorem walk_nil (a0 : Option Addr) (cap0 : Nat) (a1 a2 : Int) (w : World) (h : a1 ≤ 1099511627776) (h0 : 0 ≤ a2) (h2 : a2 ≤ 1099511627776) (hm : -9223372036854775808 ≤ a1) :
    Calls Try.prog 4 #[.slice a0 0 cap0, .int .i64 a1, .int .i64 a2] w fun e w' => e = .returned (.bool true) ∧ w = w' := by
  by_cases hp : 0 ≤ a1
  · go_enter Try.func4, Try.ntmps4
    go_wp2
    go_loop [7, 8] (fun u i => u = .int .i64 (-1) ∧ i = .int .i64 (-1)) (fun _ _ => 0)
    case atStart => exact ⟨rfl, rfl⟩
    case round =>
      obtain ⟨rfl, rfl⟩ := hrel
      go_wp2_with (first
        | (go_at_call 8; refine (pc_empty _ _ _).mono ?_; rintro e w' ⟨rfl, rfl⟩)
        | go_in)
      go_ret
      exact ⟨rfl, rfl⟩
  · have hp' : a1 < 0 := by omega
    clear hp
    go_enter Try.func4, Try.ntmps4
    go_wp2
    go_loop [7, 8] (fun u i => u = .int .i64 (-1) ∧ i = .int .i64 (-1)) (fun _ _ => 0)
    case atStart => exact ⟨rfl, rfl⟩
    case round =>
      obtain ⟨rfl, rfl⟩ := hrel
      go_wp2_with (first
        | (go_at_call 8; refine (pc_empty _ _ _).mono ?_; rintro e w' ⟨rfl, rfl⟩)
        | go_in)
      go_ret
      exact ⟨rfl, rfl⟩

theorem walk_some (b off len cap : Nat) (zs : List Int) (a1 a2 : Int) (w : World) (hz : len = zs.length) (hpos : 0 < len) (hbig : len ≤ 16384) (hb : b < w.heap.size)
    (hc : ∀ j, j < zs.length → w.cell? ⟨b, off + j, none⟩ = some (.int .i64 (zs.getD j 0)))
    (h : a1 ≤ 1099511627776) (h0 : 0 ≤ a2) (h2 : a2 ≤ 1099511627776) (hm : -9223372036854775808 ≤ a1) (f : Int) (hf : f = if 0 ≤ a1 then a1 + a2 else -1) :
    Calls Try.prog 4 #[.slice (some ⟨b, off, none⟩) len cap, .int .i64 a1, .int .i64 a2] w fun e w' => e = .returned (.bool true) ∧ Below w.heap.size w w' := by
  have HZ := Lib.hid hz
  have HC := Lib.hid hc
  have HF := Lib.hid hf
  clear hz hc hf
  by_cases hp : 0 ≤ a1
  · have ef : f = a1 + a2 := by rw [HF.out, if_pos hp]
    subst ef
    go_enter Try.func4, Try.ntmps4
    go_wp2
    go_loop [7, 8] (fun u i => ∃ k : Nat, k ≤ len ∧ u = .int .i64 (firstOf (zs.drop k)) ∧ i = .int .i64 ((k : Int) - 1)) (fun _ i => (intOf i + 1).toNat)
    case atStart => exact ⟨len, Nat.le_refl _, by rw [first_nil zs len (by rw [HZ.out]; exact Nat.le_refl _)], rfl⟩
    case round =>
      obtain ⟨k, hk, rfl, rfl⟩ := hrel
      cases k with
      | zero =>
        simp only [List.drop_zero]
        go_wp2_with (first
          | (go_at_call 8; refine (pc_some b off len cap zs _ HZ.out hpos hbig hb HC.out).mono ?_; rintro e w' ⟨rfl, hbel⟩)
          | go_in)
        go_ret
        exact ⟨rfl, hbel⟩
      | succ k =>
        have e : ((k + 1 : Nat) : Int) - 1 = (k : Int) := by omega
        rw [e]
        clear e
        have hcell : w.cell? ⟨b, off + k, none⟩ = some (.int .i64 (zs.getD k 0)) := HC.out k (by rw [← HZ.out]; omega)
        have hst := first_step zs k (by rw [← HZ.out]; omega)
        by_cases hn : 0 ≤ zs[k]?.getD 0
        · rw [if_pos hn] at hst
          have HS := Lib.hid hst
          clear hst
          go_wp2
          go_round
          case rel => exact ⟨k, by omega, by rw [HS.out], rfl⟩
          case measure => simp [intOf]
        · rw [if_neg hn] at hst
          have HS := Lib.hid hst
          clear hst
          have hn' : zs[k]?.getD 0 < 0 := by omega
          go_wp2
          go_round
          case rel => exact ⟨k, by omega, by rw [HS.out], rfl⟩
          case measure => simp [intOf]
  · have ef : f = -1 := by rw [HF.out, if_neg hp]
    subst ef
    have hp' : a1 < 0 := by omega
    clear hp
    go_enter Try.func4, Try.ntmps4
    go_wp2
    go_loop [7, 8] (fun u i => ∃ k : Nat, k ≤ len ∧ u = .int .i64 (firstOf (zs.drop k)) ∧ i = .int .i64 ((k : Int) - 1)) (fun _ i => (intOf i + 1).toNat)
    case atStart => exact ⟨len, Nat.le_refl _, by rw [first_nil zs len (by rw [HZ.out]; exact Nat.le_refl _)], rfl⟩
    case round =>
      obtain ⟨k, hk, rfl, rfl⟩ := hrel
      cases k with
      | zero =>
        simp only [List.drop_zero]
        go_wp2_with (first
          | (go_at_call 8; refine (pc_some b off len cap zs _ HZ.out hpos hbig hb HC.out).mono ?_; rintro e w' ⟨rfl, hbel⟩)
          | go_in)
        go_ret
        exact ⟨rfl, hbel⟩
      | succ k =>
        have e : ((k + 1 : Nat) : Int) - 1 = (k : Int) := by omega
        rw [e]
        clear e
        have hcell : w.cell? ⟨b, off + k, none⟩ = some (.int .i64 (zs.getD k 0)) := HC.out k (by rw [← HZ.out]; omega)
        have hst := first_step zs k (by rw [← HZ.out]; omega)
        by_cases hn : 0 ≤ zs[k]?.getD 0
        · rw [if_pos hn] at hst
          have HS := Lib.hid hst
          clear hst
          go_wp2
          go_round
          case rel => exact ⟨k, by omega, by rw [HS.out], rfl⟩
          case measure => simp [intOf]
        · rw [if_neg hn] at hst
          have HS := Lib.hid hst
          clear hst
          have hn' : zs[k]?.getD 0 < 0 := by omega
          go_wp2
          go_round
          case rel => exact ⟨k, by omega, by rw [HS.out], rfl⟩
          case measure => simp [intOf]

theorem walk (a0 : Option Addr) (len0 cap0 : Nat) (z0 : List Int) (a1 : Int) (a2 : Int) (w : World) (w0 : IsRow .i64 w a0 len0 cap0 z0) (w1 : (Lit.int .i64 a1).wf = true) (w2 : (Lit.int .i64 a2).wf = true) :
    Calls Try.prog 4 #[.slice a0 len0 cap0, .int .i64 a1, .int .i64 a2] w fun e w' => e = .returned (.bool true) ∧ Below w.heap.size w w' := by
  have b1 := bounds_i64 w1
  have b2 := bounds_i64 w2
  obtain ⟨b1a, b1b⟩ := b1
  obtain ⟨b2a, b2b⟩ := b2
  have hlen : len0 ≤ maxLen := by
    rcases w0 with ⟨_, rfl, _, _⟩ | ⟨x, _, hl, hm, _⟩
    · exact Nat.zero_le _
    · exact Nat.le_trans hl hm
  unfold maxLen at hlen
  by_cases c1 : 16384 < len0
  · exact (walk_long a0 len0 cap0 a1 a2 w c1 hlen).mono fun e w' ⟨he, hw⟩ => ⟨he, hw ▸ Below.refl _ _⟩
  by_cases c2 : 1099511627776 < a1
  · exact (walk_far a0 len0 cap0 a1 a2 w (by omega) c2).mono fun e w' ⟨he, hw⟩ => ⟨he, hw ▸ Below.refl _ _⟩
  by_cases c3 : a2 < 0
  · exact (walk_neg a0 len0 cap0 a1 a2 w (by omega) (by omega) c3).mono fun e w' ⟨he, hw⟩ => ⟨he, hw ▸ Below.refl _ _⟩
  by_cases c4 : 1099511627776 < a2
  · exact (walk_wide a0 len0 cap0 a1 a2 w (by omega) (by omega) c4).mono fun e w' ⟨he, hw⟩ => ⟨he, hw ▸ Below.refl _ _⟩
  by_cases c5 : len0 = 0
  · subst c5
    exact (walk_nil a0 cap0 a1 a2 w (by omega) (by omega) (by omega) (by omega)).mono fun e w' ⟨he, hw⟩ => ⟨he, hw ▸ Below.refl _ _⟩
  rcases w0 with ⟨_, h0, _, _⟩ | ⟨x, rfl, hl, hm, hz, hcell, hwz⟩
  · exact absurd h0 c5
  · obtain ⟨b, off, rfl, hc⟩ := ints_at hcell (by omega)
    have hb : b < w.heap.size := World.block_lt_of_cell? w _ (hc 0 (by omega))
    refine walk_some b off len0 cap0 (z0.take len0) a1 a2 w (by simp; omega) (by omega) (by omega) hb ?_ (by omega) (by omega) (by omega) (by omega) _ rfl
    intro j hj
    have hj2 : j < len0 := by simp at hj; omega
    rw [hc j (by omega)]
    simp [List.getD, hj2]

set_option maxRecDepth 100000 in
theorem lifted (os : Os) (started : os.Started) (H : Type) (enc : TypeId × Value → H) :
    ReturnsInHanded {} Try.checked os 4 .any (Rows.fnPlacesChosenSpec.pre6 enc Try.prog Try.f4 Rows.fnPlacesChosenRow.domain false) (Rows.fnPlacesChosenSpec.post enc Try.prog Try.f4 false true false false) := by
  refine returnsInHanded_of_change (C := Try.checked) own started (by kernel_rfl) Try.func4
    (ChangeSpec.witness6 (enc := enc) (C := Try.checked) false ⟨#[], #[.slice none 0 0, .int .i64 0, .int .i64 0], []⟩ 8 (by kernel_rfl) (by kernel_rfl) (by kernel_rfl) (by kernel_rfl)) ?_
  intro W base args ds gs before hval0 hW hcnd _
  have hval : ∀ (j : Nat) t v, Try.f4.params[j]? = some t → args[j]? = some v → Value.okWide Try.prog W .any base t v := hval0
  have hW' := hW
  obtain ⟨p, q, hA0, hV, rfl, hfz, hnd⟩ := hW
  have hA : DataW.TrodAll enc Try.prog W 0 (fun _ => true) true Try.f4.params.toList args.toList ds p := hA0
  rw [Try.params4] at hA hval
  obtain ⟨v0, vs0, d0, ds0, p0, q0, hargs, rfl, rfl, h0, r0⟩ := trodAll_cons hA
  obtain ⟨v1, vs1, d1, ds1, p1, q1, rfl, rfl, rfl, h1, r1⟩ := trodAll_cons r0
  obtain ⟨v2, vs2, d2, ds2, p2, q2, rfl, rfl, rfl, h2, r2⟩ := trodAll_cons r1
  obtain ⟨rfl, rfl, rfl⟩ := trodAll_nil r2
  obtain rfl : args = #[v0, v1, v2] := by cases args; simp_all
  obtain ⟨rfl, rfl⟩ := trodVars_none hV
  obtain ⟨a0, len0, cap0, rfl⟩ := okWide_slice Try.underlying23 (hval 0 23 v0 rfl rfl)
  have k0 := h0
  have lt0 : ∀ x ∈ p0, x.block < W.heap.size := by obtain ⟨m, hm⟩ := k0; exact DataW.trod_lt m _ _ _ hm
  obtain ⟨z0, w0⟩ : ∃ zs, IsRow .i64 W a0 len0 cap0 zs := by
    obtain ⟨fuel, hf⟩ := h0
    rcases open_ints Try.underlying23 Try.underlying3 (by kernel_rfl) hf with ⟨hcs, _⟩ | ⟨x, l, c, zs, hcs, _, hl, hm, hz, _, hcell, hwz⟩
    · simp [Value.cells] at hcs
      obtain ⟨rfl, rfl, rfl⟩ := hcs
      exact ⟨[], .inl ⟨rfl, rfl, rfl, rfl⟩⟩
    · simp [Value.cells] at hcs
      obtain ⟨rfl, rfl, rfl⟩ := hcs
      exact ⟨zs, .inr ⟨_, rfl, hl, hm, by simpa using hz, hcell, hwz⟩⟩
  obtain ⟨a1, rfl, rfl, rfl, w1⟩ := open_int Try.underlying3 (hval 1 3 v1 rfl rfl) h1
  obtain ⟨a2, rfl, rfl, rfl, w2⟩ := open_int Try.underlying3 (hval 2 3 v2 rfl rfl) h2
  clear hA0 hval0
  refine (walk a0 len0 cap0 z0 a1 a2 W w0 w1 w2).mono fun e W' ⟨he, bel⟩ => ?_
  subst he
  exact ⟨_, rfl, _, _, _, [], _, [], hW', trodAll_mk1 (shut_bool Try.underlying4 _), (trodAll_cons_mk (Below.trod laidOut (by kernel_rfl) (of_decide_eq_true (by kernel_rfl)) k0 bel lt0) (trodAll_cons_mk (shut_int Try.underlying3 w1) (trodAll_cons_mk (shut_int Try.underlying3 w2) trodAll_mk0))), rfl, bel.frame _, fun h => by cases h⟩

theorem over : Rows.fnPlacesChosenRow.holds Try.pinned (OpenSpec.ofChange Rows.fnPlacesChosenSpec) :=
  OpenClaim.holds_of_wide 4 Try.f4 rfl rfl rfl rfl rfl rfl rfl ⟨rfl, rfl, rfl, rfl, rfl⟩ rfl rfl rfl rfl rfl (by kernel_rfl) Try.func4 (by kernel_rfl)
    (of_decide_eq_true (by kernel_rfl)) (by unfold Func.isWrapper; first | (rw [if_pos (by decide +kernel)]; kernel_rfl) | (rw [if_neg (by decide +kernel)]; exact ⟨rfl, rfl⟩))
    (fun os started H enc _ => lifted os started H enc)

theorem proved : Rows.FnPlacesChosenSaid := over
#print axioms proved
end Go.Proofs.Ythndckejdalabaa.fnPlacesChosen
