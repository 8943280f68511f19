/-
  Contracts for 'laws.FnPlacesChosen': impl.PosChoice (a list is copied, then its first place from 0 on is chosen), impl.PosAdd. No statement of the seat is proved here.
-/
import Derived.Test.YthndckejdalabaaPlacesT
namespace Go.Proofs.Ythndckejdalabaa.places
open Go.RowKit

theorem info36 : (Try.prog.info? 36).map (fun i => (i.zero, i.size, i.bytes)) = some (some (.int .i64 0), 1, 8) := by kernel_rfl

theorem take_snoc (zs : List Int) (k : Nat) (h : k < zs.length) : (zs.take (k + 1)).map (Value.int .i64) = (zs.take k).map (Value.int .i64) ++ [Value.int .i64 (zs.getD k 0)] := by
  have e := List.take_succ_eq_append_getElem h
  rw [e, List.map_append]
  simp [List.getD, List.getElem?_eq_getElem h]

theorem pc_empty (ao : Option Addr) (cap : Nat) (w : World) :
    Calls Try.prog 8 #[.slice ao 0 cap] w fun e w' => e = .returned (.int .i64 (-1)) ∧ w = w' := by
  go_enter Try.func8, Try.ntmps8
  go_wp2
  go_loop [3, 8] (fun v i => v = .slice none 0 0 ∧ i = .int .i64 0) (fun _ _ => 0)
  case atStart => exact ⟨rfl, rfl⟩
  case round =>
    obtain ⟨rfl, rfl⟩ := hrel
    go_wp2_with (first
      | (go_at_call 22; refine (choice_empty _ _ _).mono ?_; rintro e w' ⟨rfl, rfl⟩)
      | go_in)
    go_ret
    exact ⟨rfl, rfl⟩

set_option maxHeartbeats 1000000 in
theorem pc_some (b off len cap : Nat) (zs : List Int) (w : World) (hz : len = zs.length) (hpos : 0 < len) (hbig : len ≤ 16384) (hb : b < w.heap.size)
    (hc : ∀ j, j < zs.length → w.cell? ⟨b, off + j, none⟩ = some (.int .i64 (zs.getD j 0))) :
    Calls Try.prog 8 #[.slice (some ⟨b, off, none⟩) len cap] w fun e w' => e = .returned (.int .i64 (firstOf zs)) ∧ Below w.heap.size w w' := by
  obtain ⟨i0, hi, hz0, hz1, hz2⟩ := info_parts info36
  have HZ := Lib.hid hz
  have HC := Lib.hid hc
  clear hz hc
  go_enter Try.func8, Try.ntmps8
  go_wp2
  go_loopw [3, 8] (fun v i wr => ∃ k : Nat, k ≤ len ∧ i = .int .i64 k ∧ wr.ownsRow w.heap.size 36 1 v k ((zs.take k).map (Value.int .i64)) ∧ Below w.heap.size w wr)
    (fun _ i _ => len - (intOf i).toNat)
  case atStart => exact ⟨0, by omega, rfl, World.ownsRow_nil _ _ _ _, Below.refl _ _⟩
  case round =>
    obtain ⟨k, hk, rfl, hown, hbel⟩ := hrel
    by_cases hlt : k < len
    · have hcx : wr.cell? ⟨b, off + k, none⟩ = some (.int .i64 (zs.getD k 0)) := (hbel.cell (by exact hb)).trans (HC.out k (by rw [← HZ.out]; exact hlt))
      go_wp2_with (first
        | (at_builtin; refine wpList_append_own _ rfl _ _ 35 rfl w.heap.size 36 i0 (.int .i64 0) 1 8 Try.underlying35 hi hz0 hz1 hz2 rfl (by decide) _ _ _ rfl (hown.alloc _) ⟨wr.heap.size, 0, none⟩ 1 1 [.int .i64 (zs.getD k 0)] rfl rfl ?c1 ?c2 ?c3 ?c4 ?c5 ?_)
        | go_in)
      case c1 => 
        intro j u hj
        match j, hj with
        | 0, hj => simp at hj; subst hj; simp [Addr.add]
      case c2 => intro u hu; simp at hu; subst hu; rfl
      case c3 => unfold maxLen; omega
      case c4 => omega
      case c5 => have := hbel.size; simp; omega
      intro v' w1 hown' hgrow _
      have hown2 : w1.ownsRow w.heap.size 36 1 v' (k + 1) ((zs.take (k + 1)).map (Value.int .i64)) := by
        rw [take_snoc zs k (by rw [← HZ.out]; exact hlt)]; simpa using hown'
      have hbel2 : Below w.heap.size w w1 := by
        refine (hbel.alloc hbel.size _).grown hgrow (by have := hbel.size; simp; omega) ?_
        intro r hr; exact (hown.lt r hr).1
      clear hown' hgrow hown hcx hbel
      go_wp2
      go_roundw
      case rel => exact ⟨k + 1, by omega, by go_num, hown2, hbel2⟩
      case measure => simp [intOf]; omega
    · have hk2 : k = len := by omega
      subst hk2
      rw [List.take_of_length_le (by rw [← HZ.out]; exact Nat.le_refl _)] at hown
      rcases hown.2 with ⟨rfl, h0⟩ | ⟨g, cp, cur, rfl, hg, hgg, hrest⟩
      · omega
      · have hc2 : ∀ j, j < zs.length → wr.cell? ⟨g, 0 + j, none⟩ = some (.int .i64 (zs.getD j 0)) := by
          intro j hj
          rw [Nat.zero_add, hown.cellAt j (by rw [HZ.out]; omega)]
          simp [List.getD, List.getElem?_eq_getElem hj]
        clear hown hrest hgg
        have HC2 := Lib.hid hc2
        clear hc2
        go_wp2_with (first
          | (go_at_call 22; refine (choice_some g 0 k _ zs _ HZ.out hbig HC2.out).mono ?_; rintro e w' ⟨rfl, rfl⟩)
          | go_in)
        go_ret
        exact ⟨rfl, hbel⟩

theorem pa_any (p x : Int) (w : World) (h0 : p ≤ 1099511627776) (h1 : 0 ≤ x) (h2 : x ≤ 1099511627776) (h3 : -9223372036854775808 ≤ p) :
    Calls Try.prog 9 #[.int .i64 p, .int .i64 x] w fun e w' => e = .returned (.int .i64 (if 0 ≤ p then p + x else -1)) ∧ w = w' := by
  by_cases hp : 0 ≤ p
  · rw [if_pos hp]
    go_enter Try.func9, Try.ntmps9
    go_wp2
    go_ret
    exact ⟨rfl, rfl⟩
  · rw [if_neg hp]
    have hp' : p < 0 := by omega
    go_enter Try.func9, Try.ntmps9
    go_wp2
    go_ret
    exact ⟨rfl, rfl⟩

end Go.Proofs.Ythndckejdalabaa.places
