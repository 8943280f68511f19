/-
  Contract of spec.Keyword: a text is one of the reserved words. No statement of the seat is proved here.
-/
import Derived.Test.YthndckejdalabaaKeyP
namespace Go.Proofs.Ythndckejdalabaa.upper
open Go.RowKit Go.Proofs.Ythndckejdalabaa.gen

theorem next_no {k : Nat} {l : List UInt8} (h : ∀ j, j < k → hit j l = false) (hk : hit k l = false) : ∀ j, j < k + 1 → hit j l = false := by
  intro j hj
  rcases Nat.lt_succ_iff_lt_or_eq.1 hj with h1 | h1
  · exact h j h1
  · rw [h1]; exact hk

set_option maxRecDepth 100000 in
set_option maxHeartbeats 1000000 in
theorem specKeyword_any (s : ByteArray) (w : World) (hs : s.size ≤ 16384) :
    Calls Try.prog 12 #[.string s] w fun e w' => e = .returned (.bool (isKw s.data.toList)) ∧ w = w' := by
  go_enter Try.func12, Try.ntmps12
  generalize hK : ByteArray.mk (List.toArray _) = K
  have hKt : K.data.toList = kText := by rw [← hK]; decide +kernel
  have HK := Lib.hid hKt
  clear hK hKt
  have hKs : Hid (K.size = 601) := by
    have := kText_len
    rw [← HK.out, Array.length_toList] at this
    exact this
  go_wp2_with fail
  go_loop [3] (fun i => ∃ k : Nat, k ≤ 601 ∧ i = .int .i64 k ∧ Hid (∀ j, j < k → hit j s.data.toList = false)) (fun i => 601 - (intOf i).toNat)
  case atStart => exact ⟨0, by omega, rfl, fun j hj => absurd hj (Nat.not_lt_zero _)⟩
  case round =>
    obtain ⟨k, hk, rfl, HN⟩ := hrel
    by_cases hsp : spaced s.data.toList = true
    · have HF : Hid (isKw s.data.toList = false) := by
        cases hk2 : isKw s.data.toList with
        | false => rfl
        | true => rw [(kw_bare _ hk2).1] at hsp; cases hsp
      go_wp2_with (go_at_call 20; refine (lSpaced_any _ _ (by omega)).mono ?_; rintro e w' ⟨rfl, rfl⟩)
      go_ret
      exact ⟨ret_bool HF.out.symm, rfl⟩
    · have hns : spaced s.data.toList = false := by simpa using hsp
      clear hsp
      have hln : s.data.toList.length = s.size := by rw [Array.length_toList]; rfl
      have HL := Lib.hid hln
      clear hln
      by_cases h2 : k + s.size + 1 < 601
      · have h4 : (k : Int) + (s.size : Int) + 1 < 601 := by omega
        have h5 : k < K.size := by rw [hKs.out]; omega
        have h6 : k + 1 + s.size < K.size := by rw [hKs.out]; omega
        have h7 : k + 1 ≤ k + 1 + s.size := by omega
        have e1 := at_beq K HK.out k h5
        have e2 := part_beq K s HK.out k s.size rfl
        have e3 := at_beq K HK.out (k + 1 + s.size) h6
        cases b1 : (kText[k]? == some 32) with
        | false =>
          rw [b1] at e1
          have HB := Lib.hid b1
          clear b1 e2 e3
          have HM : Hid (∀ j, j < k + 1 → hit j s.data.toList = false) := next_no HN.out (by simp [hit, HB.out])
          go_wp2_with (go_at_call 20; refine (lSpaced_any _ _ (by omega)).mono ?_; rintro e w' ⟨rfl, rfl⟩)
          go_round
          case rel => exact ⟨k + 1, by omega, by go_num, HM⟩
          case measure => simp [intOf]; omega
        | true =>
          rw [b1] at e1
          have HB := Lib.hid b1
          clear b1
          cases b2 : ((kText.drop (k + 1)).take s.data.toList.length == s.data.toList) with
          | false =>
            rw [b2] at e2
            have HB2 := Lib.hid b2
            clear b2 e3
            have HM : Hid (∀ j, j < k + 1 → hit j s.data.toList = false) := next_no HN.out (by simp only [hit, HB2.out, Bool.and_false, Bool.false_and])
            go_wp2_with (go_at_call 20; refine (lSpaced_any _ _ (by omega)).mono ?_; rintro e w' ⟨rfl, rfl⟩)
            go_round
            case rel => exact ⟨k + 1, by omega, by go_num, HM⟩
            case measure => simp [intOf]; omega
          | true =>
            rw [b2] at e2
            have HB2 := Lib.hid b2
            clear b2
            cases b3 : (kText[k + 1 + s.size]? == some 32) with
            | false =>
              rw [b3] at e3
              have HB3 := Lib.hid b3
              clear b3
              have HM : Hid (∀ j, j < k + 1 → hit j s.data.toList = false) := next_no HN.out (by simp only [hit, HL.out, HB3.out, Bool.and_false])
              go_wp2_with (go_at_call 20; refine (lSpaced_any _ _ (by omega)).mono ?_; rintro e w' ⟨rfl, rfl⟩)
              go_round
              case rel => exact ⟨k + 1, by omega, by go_num, HM⟩
              case measure => simp [intOf]; omega
            | true =>
              rw [b3] at e3
              have HB3 := Lib.hid b3
              clear b3
              have HT : Hid (isKw s.data.toList = true) := hit_kw k _ hns (by rw [HL.out]; omega) (by have h := HB2.out; rw [HL.out] at h; simp only [hit, HL.out, HB.out, h, HB3.out, Bool.and_true])
              have hp : 0 < s.size := by rw [← HL.out]; exact (kw_bare _ HT.out).2
              go_wp2_with (go_at_call 20; refine (lSpaced_any _ _ (by omega)).mono ?_; rintro e w' ⟨rfl, rfl⟩)
              go_ret
              exact ⟨ret_bool HT.out.symm, rfl⟩
      · have HF : Hid (isKw s.data.toList = false) := kw_no _ k HN.out (by rw [HL.out]; exact h2)
        go_wp2_with (go_at_call 20; refine (lSpaced_any _ _ (by omega)).mono ?_; rintro e w' ⟨rfl, rfl⟩)
        go_ret
        exact ⟨ret_bool HF.out.symm, rfl⟩

end Go.Proofs.Ythndckejdalabaa.upper
