/-
  Contract of laws.FnLooseSame. No statement of the seat is proved here.
-/
import Derived.Test.YtngofbhlhcalpaaGreatDoorZ36
import Derived.Test.YtngofbhlhcalpaaGreatDoorZ02
namespace Go.Proofs.YtngofbhlhcalpaaGreatDoor.lexer
open Go.RowKit Go.Proofs.YtngofbhlhcalpaaGreatDoor.gen

set_option maxRecDepth 100000 in
set_option maxHeartbeats 4000000 in
theorem loosesame_main (s : ByteArray) (w : World) (hs : s.size ≤ 16384) (hN : NB s) (hc : Ctx w) : Calls Tryz.prog 6 #[.string s] w (TrueRes w) := by
  have HC := Lib.hid hc
  have HN := Lib.hid hN
  have d1 : decide ((2147483647 : Int) < (s.size : Int)) = false := by simp; omega
  have d2 : decide ((16384 : Int) < (s.size : Int)) = false := by simp; omega
  clear hc hN
  go_enter Tryz.func6, Tryz.ntmps6
  go_wp2_with (go_at_call 10; refine (brittle_no s _ (by omega) HN.out).mono ?_; rintro e w' ⟨rfl, rfl⟩)
  refine (lex_any s _ (by omega) HC.out (.inl HN.out)).mono ?_
  rintro e w1 ⟨v, rfl, hT, hb⟩
  have HT := Lib.hid hT
  have HB := Lib.hid hb
  clear hT hb
  go_wp2_with fail
  refine (loose_any s _ (by omega) (HC.out.below HB.out) HN.out).mono ?_
  rintro e w2 ⟨v2, us, rfl, hU, hlen, hle, hsame, hb2⟩
  obtain ⟨g2, cap2, hv2⟩ : ∃ g2 cap2, v2 = .slice (some ⟨g2, 0, none⟩) us.length cap2 := by
    rcases hU.shape with ⟨_, h3⟩ | ⟨g, cap, h3, _⟩
    · rw [h3] at hlen; simp at hlen
    · exact ⟨g, cap, h3⟩
  subst hv2
  obtain ⟨n2, hn2⟩ : ∃ n2, us.length = n2 := ⟨_, rfl⟩
  rw [hn2] at hU hlen hle ⊢
  have HN2 := Lib.hid hn2
  have HU := Lib.hid hU
  have HS := Lib.hid hsame
  have HB2 := Lib.hid (bel2 HB.out hb2)
  have HB3 := Lib.hid hb2
  have hl0 : (0 : Int) < (n2 : Int) := by omega
  cases ho : (lexAll s).2 with
  | some o =>
    clear ho hU hn2 hsame hb2
    go_wp2_with fail
    go_ret
    exact ⟨by first | rfl | exact ret_bool (decide_eq_true (by omega)), HB2.out⟩
  | none =>
    have HO := Lib.hid ho
    clear ho hU hn2 hsame hb2
    have hus : us = (lexAll s).1.map (itOf s) := HS.out HO.out
    have hT2 : ToksAt w2 w.heap.size v us := by rw [hus]; exact HT.out.below HB3.out
    obtain ⟨g, cap, hv⟩ : ∃ g cap, v = .slice (some ⟨g, 0, none⟩) n2 cap := by
      have h4 : us.length = n2 := HN2.out
      rcases hT2.shape with ⟨_, h3⟩ | ⟨g, cap, h3, _⟩
      · rw [h3] at h4; simp at h4; omega
      · rw [h4] at h3; exact ⟨g, cap, h3⟩
    subst hv
    have HT2 := Lib.hid hT2
    clear hus hT2
    go_wp2_with (go_at_call 16; refine (allAlike_yes g 0 g2 0 n2 cap cap2 us us _ HN2.out (by omega) (ToksAt.reads HT2.out) (ToksAt.reads HU.out) (Alikes.refl us)).mono ?_; rintro e w5 ⟨rfl, hb5⟩)
    have HB5 := Lib.hid (bel2 HB2.out hb5)
    go_ret
    exact ⟨rfl, HB5.out⟩

set_option maxRecDepth 10000 in
theorem loosesame_any (s : ByteArray) (w : World) (hs : s.size ≤ 9223372036854775807) (hc : Ctx w) : Calls Tryz.prog 6 #[.string s] w (TrueRes w) := by
  have HC := Lib.hid hc
  clear hc
  by_cases h1 : 2147483647 < s.size
  · have d1 : (2147483647 : Int) < (s.size : Int) := by omega
    go_enter Tryz.func6, Tryz.ntmps6
    go_wp2_with fail
    go_ret
    exact ⟨rfl, Below.refl _ _⟩
  · by_cases h2 : 16384 < s.size
    · have d1 : ¬ (2147483647 : Int) < (s.size : Int) := by omega
      have d2 : (16384 : Int) < (s.size : Int) := by omega
      go_enter Tryz.func6, Tryz.ntmps6
      go_wp2_with fail
      refine (lexes_any _ HC.out).mono ?_
      rintro e w3 ⟨rfl, hb3⟩
      go_wp2_with fail
      go_ret
      exact ⟨rfl, hb3⟩
    · by_cases h3 : NB s
      · exact loosesame_main s w (by omega) h3 HC.out
      · have d1 : ¬ (2147483647 : Int) < (s.size : Int) := by omega
        have d2 : ¬ (16384 : Int) < (s.size : Int) := by omega
        have HN := Lib.hid h3
        clear h3
        go_enter Tryz.func6, Tryz.ntmps6
        go_wp2_with (go_at_call 10; refine (brittle_yes s _ (by omega) HN.out).mono ?_; rintro e w' ⟨rfl, rfl⟩)
        refine (lexes_any _ HC.out).mono ?_
        rintro e w3 ⟨rfl, hb3⟩
        go_wp2_with fail
        go_ret
        exact ⟨rfl, hb3⟩

end Go.Proofs.YtngofbhlhcalpaaGreatDoor.lexer
