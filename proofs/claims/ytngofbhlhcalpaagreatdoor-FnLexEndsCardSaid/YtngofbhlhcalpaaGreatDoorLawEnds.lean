/-
  Contract of laws.FnLexEnds. No statement of the seat is proved here.
-/
import Derived.Test.YtngofbhlhcalpaaGreatDoorZ36
import Derived.Test.YtngofbhlhcalpaaGreatDoorZ02
namespace Go.Proofs.YtngofbhlhcalpaaGreatDoor.lexer
open Go.RowKit Go.Proofs.YtngofbhlhcalpaaGreatDoor.gen

set_option maxRecDepth 100000 in
set_option maxHeartbeats 4000000 in
theorem ends_main (s : ByteArray) (w : World) (hs : s.size ≤ 16384) (hN : NB s) (hc : Ctx w) : Calls Tryz.prog 4 #[.string s] w (TrueRes w) := by
  have hel := lexAll_elem s
  obtain ⟨L, hL⟩ : ∃ L, lexAll s = L := ⟨_, rfl⟩
  have HL := Lib.hid hL
  have HC := Lib.hid hc
  have HN := Lib.hid hN
  rw [hL] at hel
  have HEL := Lib.hid hel
  have d1 : decide ((2147483647 : Int) < (s.size : Int)) = false := by simp; omega
  have d2 : decide ((16384 : Int) < (s.size : Int)) = false := by simp; omega
  clear hL hc hN hel
  go_enter Tryz.func4, Tryz.ntmps4
  go_wp2_with (go_at_call 10; refine (brittle_no s _ (by omega) HN.out).mono ?_; rintro e w' ⟨rfl, rfl⟩)
  refine (lex_any s _ (by omega) HC.out (.inl HN.out)).mono ?_
  rintro e w1 ⟨v, rfl, hT, hb⟩
  rw [HL.out] at hT
  rw [HL.out]
  have HT := Lib.hid hT
  have HB := Lib.hid hb
  obtain ⟨n, hn⟩ : ∃ n, n = L.1.length := ⟨_, rfl⟩
  have hn2 : n ≤ 16385 := by have := HEL.out.2.2.2; omega
  rcases hT.shape with ⟨rfl, h3⟩ | ⟨g, cap, hv, _⟩
  · have hn0 : L.1 = [] := List.map_eq_nil_iff.1 h3
    obtain ⟨o, ho⟩ : ∃ o, L.2 = some o := by
      cases h : L.2 with
      | none => have := HEL.out.2.2.1 h; rw [hn0] at this; simp at this
      | some o => exact ⟨o, rfl⟩
    rw [ho]
    have hbo := HEL.out.2.1 o ho
    have hb1 : (o : Int) ≤ (s.size : Int) := by omega
    have hb2 : (0 : Int) < (s.size : Int) := by omega
    have hb3 : (0 : Int) ≤ (o : Int) := by omega
    have HO := Lib.hid ho
    clear hT hb ho hbo
    go_wp2_with fail
    go_loopg [27] 0 (fun g' i wr => ∃ k : Nat, g' = 0 - k ∧ i = .int .i64 k ∧ k ≤ 0 ∧ Hid (Below w1.heap.size w1 wr))
    case atStart => exact ⟨0, rfl, rfl, Nat.zero_le _, Below.refl _ _⟩
    case round =>
      obtain ⟨k, hg, rfl, hkn, HB2⟩ := hrel
      have hlt : ¬ k < 0 := by omega
      go_wp2_with fail
      refine (lexes_any _ (HC.out.below (bel2 HB.out HB2.out))).mono ?_
      rintro e w3 ⟨rfl, hb3⟩
      have HB3 := Lib.hid hb3
      clear hb3
      go_wp2_with fail
      go_ret
      exact ⟨rfl, bel2 (bel2 HB.out HB2.out) HB3.out⟩
  · rw [List.length_map, ← hn] at hv
    subst hv
    have HNn := Lib.hid hn
    cases ho : L.2 with
    | none =>
      have hn0 : (0 : Int) < (n : Int) := by have := HEL.out.2.2.1 ho; omega
      have HO := Lib.hid ho
      clear hT hb hn ho
      go_wp2_with fail
      go_loopg [27] n (fun g' i wr => ∃ k : Nat, g' = n - k ∧ i = .int .i64 k ∧ k ≤ n ∧ Hid (Below w1.heap.size w1 wr))
      case atStart => exact ⟨0, rfl, rfl, Nat.zero_le _, Below.refl _ _⟩
      case round =>
        obtain ⟨k, hg, rfl, hkn, HB2⟩ := hrel
        by_cases hlt : k < n
        · skip
          have hkn2 : k < L.1.length := by have := HNn.out; omega
          obtain ⟨x, hx⟩ : ∃ x, L.1[k]? = some x := ⟨_, List.getElem?_eq_getElem hkn2⟩
          have hxt : (L.1.map (itOf s))[k]? = some (itOf s x) := by rw [List.getElem?_map, hx]; rfl
          have hk8 := (HT.out.below HB2.out).at_ k _ hxt
          obtain ⟨q0, q1, q2, q3, q4, q5, q6, ca, cn, cc, q7, _⟩ := hk8
          have hi0 : (0 : Int) ≤ (k : Int) := by omega
          have hi1 : (k : Int) < (n : Int) := by omega
          have hkw : IntKind.i64.wrap ((k : Int) + 1) = (k : Int) + 1 := IntWalk.i64_in _ (by omega)
          have hEx := elem_facts (HEL.out.1 k x hx)
          clear hx hxt
          rcases hEx with ⟨e1, e2, e3⟩ | ⟨e1, e2, _, e4⟩
          · have e3 := e3 HO.out
            rw [← HNn.out] at e3
            have HB4 := Lib.hid (HB2.out.trans ((Below.refl w1.heap.size wr).alloc HB2.out.size (.cells #[.string (itOf s x).kind, .string (itOf s x).space, .string (itOf s x).raw, .string (itOf s x).text, .int .i64 (itOf s x).base, .int .i64 (itOf s x).pos, .int .i64 (itOf s x).en, .slice ca cn cc] 30)))
            go_wp2_with fail
            go_roundg (n - (k + 1))
            case measure => omega
            case rel => exact ⟨k + 1, rfl, by go_num, by omega, HB4⟩
          · rw [← HNn.out] at e4
            have HB4 := Lib.hid (HB2.out.trans ((Below.refl w1.heap.size wr).alloc HB2.out.size (.cells #[.string (itOf s x).kind, .string (itOf s x).space, .string (itOf s x).raw, .string (itOf s x).text, .int .i64 (itOf s x).base, .int .i64 (itOf s x).pos, .int .i64 (itOf s x).en, .slice ca cn cc] 30)))
            go_wp2_with fail
            go_roundg (n - (k + 1))
            case measure => omega
            case rel => exact ⟨k + 1, rfl, by go_num, by omega, HB4⟩
        · obtain rfl : k = n := by omega
          go_wp2_with fail
          go_ret
          exact ⟨ret_bool (decide_eq_true (by omega)), bel2 HB.out HB2.out⟩
    | some o =>
      have hbo := HEL.out.2.1 o ho
      have hb1 : (o : Int) ≤ (s.size : Int) := by omega
      have hb2 : (0 : Int) < (s.size : Int) := by omega
      have hb3 : (0 : Int) ≤ (o : Int) := by omega
      have HO := Lib.hid ho
      clear hT hb ho hbo
      go_wp2_with fail
      go_loopg [27] n (fun g' i wr => ∃ k : Nat, g' = n - k ∧ i = .int .i64 k ∧ k ≤ n ∧ Hid (Below w1.heap.size w1 wr))
      case atStart => exact ⟨0, rfl, rfl, Nat.zero_le _, Below.refl _ _⟩
      case round =>
        obtain ⟨k, hg, rfl, hkn, HB2⟩ := hrel
        by_cases hlt : k < n
        · skip
          have hkn2 : k < L.1.length := by have := HNn.out; omega
          obtain ⟨x, hx⟩ : ∃ x, L.1[k]? = some x := ⟨_, List.getElem?_eq_getElem hkn2⟩
          have hxt : (L.1.map (itOf s))[k]? = some (itOf s x) := by rw [List.getElem?_map, hx]; rfl
          have hk8 := (HT.out.below HB2.out).at_ k _ hxt
          obtain ⟨q0, q1, q2, q3, q4, q5, q6, ca, cn, cc, q7, _⟩ := hk8
          have hi0 : (0 : Int) ≤ (k : Int) := by omega
          have hi1 : (k : Int) < (n : Int) := by omega
          have hkw : IntKind.i64.wrap ((k : Int) + 1) = (k : Int) + 1 := IntWalk.i64_in _ (by omega)
          have hEx := elem_facts (HEL.out.1 k x hx)
          clear hx hxt
          rcases hEx with ⟨e1, e2, _⟩ | ⟨e1, e2, e3, _⟩
          · skip
            have HB4 := Lib.hid (HB2.out.trans ((Below.refl w1.heap.size wr).alloc HB2.out.size (.cells #[.string (itOf s x).kind, .string (itOf s x).space, .string (itOf s x).raw, .string (itOf s x).text, .int .i64 (itOf s x).base, .int .i64 (itOf s x).pos, .int .i64 (itOf s x).en, .slice ca cn cc] 30)))
            go_wp2_with fail
            go_roundg (n - (k + 1))
            case measure => omega
            case rel => exact ⟨k + 1, rfl, by go_num, by omega, HB4⟩
          · rw [HO.out] at e3; cases e3
        · skip
          go_wp2_with fail
          refine (lexes_any _ (HC.out.below (bel2 HB.out HB2.out))).mono ?_
          rintro e w3 ⟨rfl, hb3⟩
          have HB3 := Lib.hid hb3
          clear hb3
          go_wp2_with fail
          go_ret
          exact ⟨rfl, bel2 (bel2 HB.out HB2.out) HB3.out⟩

set_option maxRecDepth 10000 in
theorem ends_any (s : ByteArray) (w : World) (hs : s.size ≤ 9223372036854775807) (hc : Ctx w) : Calls Tryz.prog 4 #[.string s] w (TrueRes w) := by
  have HC := Lib.hid hc
  clear hc
  by_cases h1 : 2147483647 < s.size
  · have d1 : (2147483647 : Int) < (s.size : Int) := by omega
    go_enter Tryz.func4, Tryz.ntmps4
    go_wp2_with fail
    go_ret
    exact ⟨rfl, Below.refl _ _⟩
  · by_cases h2 : 16384 < s.size
    · have d1 : ¬ (2147483647 : Int) < (s.size : Int) := by omega
      have d2 : (16384 : Int) < (s.size : Int) := by omega
      go_enter Tryz.func4, Tryz.ntmps4
      go_wp2_with fail
      refine (lexes_any _ HC.out).mono ?_
      rintro e w3 ⟨rfl, hb3⟩
      go_wp2_with fail
      go_ret
      exact ⟨rfl, hb3⟩
    · by_cases h3 : NB s
      · exact ends_main s w (by omega) h3 HC.out
      · have d1 : ¬ (2147483647 : Int) < (s.size : Int) := by omega
        have d2 : ¬ (16384 : Int) < (s.size : Int) := by omega
        have HN := Lib.hid h3
        clear h3
        go_enter Tryz.func4, Tryz.ntmps4
        go_wp2_with (go_at_call 10; refine (brittle_yes s _ (by omega) HN.out).mono ?_; rintro e w' ⟨rfl, rfl⟩)
        refine (lexes_any _ HC.out).mono ?_
        rintro e w3 ⟨rfl, hb3⟩
        go_wp2_with fail
        go_ret
        exact ⟨rfl, hb3⟩

end Go.Proofs.YtngofbhlhcalpaaGreatDoor.lexer
