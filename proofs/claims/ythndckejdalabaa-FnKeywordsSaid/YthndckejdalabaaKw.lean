/-
  Contract of token.ZzKeyword: a text is one of the reserved words. No statement of the seat is proved here.
-/
import Derived.Test.YthndckejdalabaaUpper
namespace Go.Proofs.Ythndckejdalabaa.upper
open Go.RowKit Go.Proofs.Ythndckejdalabaa.gen

def kwords : List (List UInt8) := [
  [65, 76, 76],
  [65, 78, 68],
  [65, 78, 89],
  [65, 82, 82, 65, 89],
  [65, 83],
  [65, 83, 67],
  [65, 83, 83, 69, 82, 84, 95, 82, 79, 87, 83, 95, 77, 79, 68, 73, 70, 73, 69, 68],
  [65, 84],
  [66, 69, 84, 87, 69, 69, 78],
  [66, 89],
  [67, 65, 83, 69],
  [67, 65, 83, 84],
  [67, 79, 76, 76, 65, 84, 69],
  [67, 79, 78, 84, 65, 73, 78, 83],
  [67, 82, 69, 65, 84, 69],
  [67, 82, 79, 83, 83],
  [67, 85, 66, 69],
  [67, 85, 82, 82, 69, 78, 84],
  [68, 69, 70, 65, 85, 76, 84],
  [68, 69, 70, 73, 78, 69],
  [68, 69, 83, 67],
  [68, 73, 83, 84, 73, 78, 67, 84],
  [69, 76, 83, 69],
  [69, 78, 68],
  [69, 78, 85, 77],
  [69, 83, 67, 65, 80, 69],
  [69, 88, 67, 69, 80, 84],
  [69, 88, 67, 76, 85, 68, 69],
  [69, 88, 73, 83, 84, 83],
  [69, 88, 84, 82, 65, 67, 84],
  [70, 65, 76, 83, 69],
  [70, 69, 84, 67, 72],
  [70, 79, 76, 76, 79, 87, 73, 78, 71],
  [70, 79, 82],
  [70, 82, 79, 77],
  [70, 85, 76, 76],
  [71, 82, 65, 80, 72, 95, 84, 65, 66, 76, 69],
  [71, 82, 79, 85, 80],
  [71, 82, 79, 85, 80, 73, 78, 71],
  [71, 82, 79, 85, 80, 83],
  [72, 65, 83, 72],
  [72, 65, 86, 73, 78, 71],
  [73, 71, 78, 79, 82, 69],
  [73, 70],
  [73, 78],
  [73, 78, 78, 69, 82],
  [73, 78, 84, 69, 82, 83, 69, 67, 84],
  [73, 78, 84, 69, 82, 86, 65, 76],
  [73, 78, 84, 79],
  [73, 83],
  [74, 79, 73, 78],
  [76, 65, 84, 69, 82, 65, 76],
  [76, 69, 70, 84],
  [76, 73, 75, 69],
  [76, 73, 77, 73, 84],
  [76, 79, 79, 75, 85, 80],
  [77, 69, 82, 71, 69],
  [78, 65, 84, 85, 82, 65, 76],
  [78, 69, 87],
  [78, 79],
  [78, 79, 84],
  [78, 85, 76, 76],
  [78, 85, 76, 76, 83],
  [79, 70],
  [79, 78],
  [79, 82],
  [79, 82, 68, 69, 82],
  [79, 85, 84, 69, 82],
  [79, 86, 69, 82],
  [80, 65, 82, 84, 73, 84, 73, 79, 78],
  [80, 82, 69, 67, 69, 68, 73, 78, 71],
  [80, 82, 79, 84, 79],
  [82, 65, 78, 71, 69],
  [82, 69, 67, 85, 82, 83, 73, 86, 69],
  [82, 69, 83, 80, 69, 67, 84],
  [82, 73, 71, 72, 84],
  [82, 79, 76, 76, 85, 80],
  [82, 79, 87, 83],
  [83, 69, 76, 69, 67, 84],
  [83, 69, 84],
  [83, 79, 77, 69],
  [83, 84, 82, 85, 67, 84],
  [84, 65, 66, 76, 69, 83, 65, 77, 80, 76, 69],
  [84, 72, 69, 78],
  [84, 79],
  [84, 82, 69, 65, 84],
  [84, 82, 85, 69],
  [85, 78, 66, 79, 85, 78, 68, 69, 68],
  [85, 78, 73, 79, 78],
  [85, 78, 78, 69, 83, 84],
  [85, 83, 73, 78, 71],
  [87, 72, 69, 78],
  [87, 72, 69, 82, 69],
  [87, 73, 78, 68, 79, 87],
  [87, 73, 84, 72],
  [87, 73, 84, 72, 73, 78]]
def isKw (l : List UInt8) : Bool := kwords.contains l

theorem kw_yes (s : ByteArray) (l : List UInt8) (h : (s.toList == l) = true) (hm : kwords.contains l = true) : isKw s.data.toList = true := by
  rw [← ByteArray.toList_eq, beq_iff_eq.1 h]; exact hm
theorem clash {b : Bool} {C : Prop} (h1 : b = true) (h2 : b = false) : C := by rw [h1] at h2; cases h2

set_option maxRecDepth 100000 in
set_option maxHeartbeats 4000000 in
theorem zzKeyword_any (s : ByteArray) (w : World) :
    Calls Try.prog 24 #[.string s] w fun e w' => e = .returned (.bool (isKw s.data.toList)) ∧ w = w' := by
  go_enter Try.func24, Try.ntmps24
  go_wp2
  all_goals first
    | (go_ret; exact ⟨ret_bool (kw_yes s _ (by assumption) (by decide)).symm, rfl⟩)
    | (go_ret; refine ⟨ret_bool ?_, rfl⟩; exact clash (b := s.toList == _) (by assumption) (by assumption))
    | (go_ret; refine ⟨ret_bool ?_, rfl⟩; rw [← ByteArray.toList_eq]; simp only [isKw, kwords, List.contains_cons, List.contains_nil, *, Bool.or_false]; done)
    | fail

theorem isKeyword_any (s : ByteArray) (w : World) (hs : s.size ≤ 2147483648) :
    Calls Try.prog 19 #[.string s] w fun e w' => e = .returned (.bool (isKw (up s.data.toList))) ∧ Below w.heap.size w w' := by
  go_enter Try.func19, Try.ntmps19
  go_wp2_with fail
  refine (toUpper_any _ _ hs).mono ?_
  rintro e w1 ⟨rfl, hb⟩
  go_wp2_with fail
  refine (zzKeyword_any _ _).mono ?_
  rintro e w2 ⟨rfl, rfl⟩
  go_wp2_with fail
  go_ret
  exact ⟨rfl, hb⟩

theorem implIsKeyword_any (s : ByteArray) (w : World) (hs : s.size ≤ 2147483648) :
    Calls Try.prog 11 #[.string s] w fun e w' => e = .returned (.bool (isKw (up s.data.toList))) ∧ Below w.heap.size w w' := by
  go_enter Try.func11, Try.ntmps11
  go_wp2_with fail
  refine (isKeyword_any _ _ hs).mono ?_
  rintro e w1 ⟨rfl, hb⟩
  go_wp2_with fail
  go_ret
  exact ⟨rfl, hb⟩

end Go.Proofs.Ythndckejdalabaa.upper
