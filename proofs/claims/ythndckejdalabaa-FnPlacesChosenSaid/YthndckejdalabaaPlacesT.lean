/-
  Contracts for 'laws.FnPlacesChosen': ast.posChoice, ast.posAdd, impl.PosChoice, impl.PosAdd. No statement of the seat is proved here.
-/
import Derived.Test.YthndckejdalabaaRows
import Derived.WalkKit
import Derived.ProofKit
import Derived.OpenShut
import Derived.Below
import Derived.OwnWalk
import Derived.Laws.OwnMore
import Derived.Lib.Hide
namespace Go.Proofs.Ythndckejdalabaa.places
open Go.RowKit

theorem ret_int {k : IntKind} {a b : Int} (h : a = b) : Ending.returned (.int k a) = .returned (.int k b) := by rw [h]
theorem ret_bool {a b : Bool} (h : a = b) : Ending.returned (.bool a) = .returned (.bool b) := by rw [h]

def firstOf : List Int → Int
  | [] => -1
  | x :: r => if 0 ≤ x then x else firstOf r

theorem first_nil (zs : List Int) (k : Nat) (h : zs.length ≤ k) : firstOf (zs.drop k) = -1 := by
  rw [List.drop_eq_nil_of_le h]; rfl

theorem first_step (zs : List Int) (k : Nat) (h : k < zs.length) : firstOf (zs.drop k) = if 0 ≤ zs[k]?.getD 0 then zs[k]?.getD 0 else firstOf (zs.drop (k + 1)) := by
  rw [List.drop_eq_getElem_cons h, firstOf]
  simp [List.getElem?_eq_getElem h]

theorem first_lo (zs : List Int) : -1 ≤ firstOf zs := by
  induction zs with
  | nil => simp [firstOf]
  | cons x r ih => unfold firstOf; split <;> omega

theorem choice_empty (ao : Option Addr) (cap : Nat) (w : World) :
    Calls Try.prog 22 #[.slice ao 0 cap] w fun e w' => e = .returned (.int .i64 (-1)) ∧ w = w' := by
  go_enter Try.func22, Try.ntmps22
  go_wp2
  go_loop [7] (fun i => i = .int .i64 0) (fun _ => 0)
  case atStart => rfl
  case round =>
    subst hrel
    go_wp2
    go_ret
    exact ⟨rfl, rfl⟩

theorem choice_some (b off len cap : Nat) (zs : List Int) (w : World) (hz : len = zs.length) (hbig : len ≤ 16384)
    (hc : ∀ j, j < zs.length → w.cell? ⟨b, off + j, none⟩ = some (.int .i64 (zs.getD j 0))) :
    Calls Try.prog 22 #[.slice (some ⟨b, off, none⟩) len cap] w fun e w' => e = .returned (.int .i64 (firstOf zs)) ∧ w = w' := by
  have HZ := Lib.hid hz
  have HC := Lib.hid hc
  clear hz hc
  go_enter Try.func22, Try.ntmps22
  go_wp2
  go_loop [7] (fun i => ∃ k : Nat, k ≤ len ∧ i = .int .i64 k ∧ Hid (firstOf zs = firstOf (zs.drop k))) (fun i => len - (intOf i).toNat)
  case atStart => exact ⟨0, by omega, rfl, by simp [Hid]⟩
  case round =>
    obtain ⟨k, hk, rfl, HF⟩ := hrel
    have hcell : k < len → w.cell? ⟨b, off + k, none⟩ = some (.int .i64 (zs.getD k 0)) := fun h => HC.out k (by rw [← HZ.out]; exact h)
    by_cases hlt : k < len
    · have hst := first_step zs k (by rw [← HZ.out]; exact hlt)
      by_cases hn : 0 ≤ zs[k]?.getD 0
      · rw [if_pos hn] at hst
        have HS := Lib.hid (HF.out.trans hst)
        clear hst
        have hd : decide (zs[k]?.getD 0 < 0) = false := by simpa using hn
        go_wp2
        go_ret
        exact ⟨ret_int HS.out.symm, rfl⟩
      · rw [if_neg hn] at hst
        have HS := Lib.hid (HF.out.trans hst)
        clear hst
        have hn' : zs[k]?.getD 0 < 0 := by omega
        go_wp2
        go_round
        case rel => exact ⟨k + 1, by omega, by go_num, HS⟩
        case measure => simp [intOf]; omega
    · have hst := first_nil zs k (by rw [← HZ.out]; omega)
      have HS := Lib.hid (HF.out.trans hst)
      clear hst
      go_wp2
      go_ret
      exact ⟨ret_int HS.out.symm, rfl⟩

end Go.Proofs.Ythndckejdalabaa.places
