/-
  Contract of laws.FnLexJoins. No statement of the seat is proved here.
-/
import Derived.Test.YtngofbhlhcalpaaGreatDoorZ36
import Derived.Test.YtngofbhlhcalpaaGreatDoorZ02
namespace Go.Proofs.YtngofbhlhcalpaaGreatDoor.lexer
open Go.RowKit Go.Proofs.YtngofbhlhcalpaaGreatDoor.gen

theorem raw_small {s : ByteArray} {ts : List (Nat × Nt)} (h : s.size ≤ 2147483647) : ∀ t ∈ ts.map (itOf s), t.raw.size ≤ 2147483647 := fun t ht => by
  obtain ⟨e, _, rfl⟩ := List.mem_map.1 ht
  show (s.extract _ _).size ≤ _
  rw [ByteArray.size_extract]; omega

theorem nb_join {s t u : ByteArray} (hj : Joined s t u) (hs : NB s) (ht : NB t) : NB u := by
  have hz := hj.size
  intro k hk
  obtain ⟨h0, h1⟩ := byt_lt u k (by omega)
  have hlt : k < u.size := by omega
  have hb := byt_in u k hlt
  rw [hk] at hb
  have hget : u.data.toList[k]? = some u[k] := by
    have h2 : k < u.data.toList.length := by rw [len_list]; exact hlt
    rw [List.getElem?_eq_getElem h2]; rfl
  rw [hj.data] at hget
  have h92 : u[k] = 92 := UInt8.toNat_inj.mp (by show u[k].toNat = 92; omega)
  rw [h92] at hget
  rcases Nat.lt_or_ge k s.size with h3 | h3
  · rw [List.getElem?_append_left (by rw [len_list]; exact h3)] at hget
    have : byt s k = 92 := by
      rw [byt_in s k h3]
      have h2 : k < s.data.toList.length := by rw [len_list]; exact h3
      rw [List.getElem?_eq_getElem h2] at hget
      have h4 : s[k] = 92 := by injection hget
      rw [h4]; rfl
    have := hs k this
    omega
  · rw [List.getElem?_append_right (by rw [len_list]; exact h3), len_list] at hget
    rcases Nat.eq_or_lt_of_le h3 with h5 | h5
    · rw [← h5, Nat.sub_self] at hget
      simp at hget
    · obtain ⟨j, rfl⟩ : ∃ j, k = s.size + 1 + j := ⟨k - (s.size + 1), by omega⟩
      rw [show s.size + 1 + j - s.size = j + 1 from by omega, List.getElem?_cons_succ] at hget
      have hjl := (List.getElem?_eq_some_iff.1 hget).1
      rw [len_list] at hjl
      have : byt t j = 92 := by
        rw [byt_in t j hjl]
        have h2 : j < t.data.toList.length := by rw [len_list]; exact hjl
        rw [List.getElem?_eq_getElem h2] at hget
        have h4 : t[j] = 92 := by injection hget
        rw [h4]; rfl
      have := ht j this
      omega

theorem Reads.take {w : World} {g o : Nat} {ts : List IT} (h : Reads w g o ts) (k : Nat) : Reads w g o (ts.take k) := fun i t ht => by
  rw [List.getElem?_take] at ht
  split at ht
  · exact h i t ht
  · cases ht
theorem Reads.drop {w : World} {g : Nat} {ts : List IT} (h : Reads w g 0 ts) (k : Nat) : Reads w g (k * 8) (ts.drop k) := fun i t ht => by
  rw [List.getElem?_drop] at ht
  obtain ⟨B, h2⟩ := h (k + i) t ht
  exact ⟨B, by rw [show k * 8 + i * 8 = 0 + (k + i) * 8 from by omega]; exact h2⟩

theorem joined_app (s t : ByteArray) : Joined s t (s ++ ⟨#[10]⟩ ++ t) := ⟨by
  rw [ByteArray.data_append, ByteArray.data_append, Array.toList_append, Array.toList_append, List.append_assoc]
  rfl⟩

set_option maxRecDepth 100000 in
set_option maxHeartbeats 8000000 in
theorem joins_main (s t : ByteArray) (w : World) (hs : s.size + t.size ≤ 16384) (hN : NB s) (hM : NB t) (hc : Ctx w) : Calls Tryz.prog 5 #[.string s, .string t] w (TrueRes w) := by
  have HC := Lib.hid hc
  have HN := Lib.hid hN
  have HM := Lib.hid hM
  have HEL := Lib.hid (lexAll_elem s)
  have HEM := Lib.hid (lexAll_elem t)
  have d1 : decide ((2147483647 : Int) < (s.size : Int)) = false := by simp; omega
  have d2 : decide ((2147483647 : Int) < (t.size : Int)) = false := by simp; omega
  have d3 : decide ((16384 : Int) < (s.size : Int) + (t.size : Int)) = false := by simp; omega
  have d4 : IntKind.i64.wrap ((s.size : Int) + (t.size : Int)) = (s.size : Int) + (t.size : Int) := IntWalk.i64_in _ (by omega)
  have hs1 : s.size ≤ 16384 := by omega
  have ht1 : t.size ≤ 16384 := by omega
  clear hc hN hM
  go_enter Tryz.func5, Tryz.ntmps5
  go_wp2_with (go_at_call 10; first | ((with_reducible refine (brittle_no s _ (by omega) HN.out).mono ?_); rintro e w' ⟨rfl, rfl⟩) | ((with_reducible refine (brittle_no t _ (by omega) HM.out).mono ?_); rintro e w' ⟨rfl, rfl⟩))
  refine (lex_any s _ (by omega) HC.out (.inl HN.out)).mono ?_
  rintro e w1 ⟨v, rfl, hT, hb⟩
  have HT := Lib.hid hT
  have HB := Lib.hid hb
  clear hT hb
  go_wp2_with fail
  refine (lex_any t _ (by omega) (HC.out.below HB.out) (.inl HM.out)).mono ?_
  rintro e w2 ⟨v2, rfl, hU, hb2⟩
  have HU := Lib.hid (hU.le (base' := w.heap.size) HB.out.size)
  have HT := Lib.hid (HT.out.below hb2)
  have HB2 := Lib.hid (bel2 HB.out hb2)
  clear hU hb2
  cases ho : (lexAll s).2 with
  | some o =>
    clear ho
    go_wp2_with fail
    refine (lexes_any _ (HC.out.below HB2.out)).mono ?_
    rintro e w3 ⟨rfl, hb3⟩
    have HB3 := Lib.hid (bel2 HB2.out hb3)
    clear hb3
    go_wp2_with fail
    go_ret
    exact ⟨rfl, HB3.out⟩
  | none =>
    have HO := Lib.hid ho
    clear ho
    obtain ⟨ts, hts⟩ : ∃ ts, (lexAll s).1.map (itOf s) = ts := ⟨_, rfl⟩
    obtain ⟨n, hn⟩ : ∃ n, ts.length = n := ⟨_, rfl⟩
    have hn0 : 0 < n := by
      rw [← hn, ← hts, List.length_map]; exact HEL.out.2.2.1 HO.out
    have hn2 : n ≤ 16385 := by
      rw [← hn, ← hts, List.length_map]; have := HEL.out.2.2.2; omega
    have HZ := Lib.hid (show ∀ t ∈ ts, t.raw.size ≤ 2147483647 by rw [← hts]; exact raw_small (by omega))
    rw [hts] at HT
    obtain ⟨g, cap, hv, hcap⟩ : ∃ g cap, v = .slice (some ⟨g, 0, none⟩) n cap ∧ n ≤ cap ∧ cap ≤ maxLen := by
      rcases HT.out.shape with ⟨_, h3⟩ | ⟨g, cap, h3, _, _, h4, h5⟩
      · rw [h3] at hn; simp at hn; omega
      · rw [hn] at h3 h4; exact ⟨g, cap, h3, h4, h5⟩
    subst hv
    have HTS := Lib.hid hts
    have HNn := Lib.hid hn
    clear hts hn
    by_cases hp : ∃ t ∈ ts, Pt t
    · have HP := Lib.hid hp
      clear hp
      go_wp2_with (go_at_call 13; refine (fields_yes _ _ _ _ ts _ HNn.out.symm (by omega) HT.out HZ.out HP.out).mono ?_; rintro e w' ⟨rfl, rfl⟩)
      refine (lexes_any _ (HC.out.below HB2.out)).mono ?_
      rintro e w3 ⟨rfl, hb3⟩
      have HB3 := Lib.hid (bel2 HB2.out hb3)
      clear hb3
      go_wp2_with fail
      go_ret
      exact ⟨rfl, HB3.out⟩
    · have HP := Lib.hid (show ∀ t ∈ ts, ¬ Pt t from fun t ht h => hp ⟨t, ht, h⟩)
      clear hp
      by_cases h46 : (46 : UInt8) ∈ t.data.toList
      · have H46 := Lib.hid h46
        clear h46
        go_wp2_with (first | (go_at_call 13; refine (fields_no _ _ _ _ ts _ HNn.out.symm (by omega) HT.out HZ.out HP.out).mono ?_; rintro e w' ⟨rfl, rfl⟩) | (go_at_call 15; refine (within_yes t _ (by omega) H46.out).mono ?_; rintro e w' ⟨rfl, rfl⟩))
        refine (lexes_any _ (HC.out.below HB2.out)).mono ?_
        rintro e w3 ⟨rfl, hb3⟩
        have HB3 := Lib.hid (bel2 HB2.out hb3)
        clear hb3
        go_wp2_with fail
        go_ret
        exact ⟨rfl, HB3.out⟩
      · have H46 := Lib.hid h46
        clear h46
        have hnz : ((n : Int) == 0) = false := by rw [beq_eq_false_iff_ne]; omega
        go_wp2_with (first | (go_at_call 13; refine (fields_no _ _ _ _ ts _ HNn.out.symm (by omega) HT.out HZ.out HP.out).mono ?_; rintro e w' ⟨rfl, rfl⟩) | (go_at_call 15; refine (within_no t _ (by omega) H46.out).mono ?_; rintro e w' ⟨rfl, rfl⟩))
        obtain ⟨u, hu⟩ : ∃ u, s ++ ⟨#[10]⟩ ++ t = u := ⟨_, rfl⟩
        have hj : Joined s t u := by rw [← hu]; exact joined_app s t
        have hjr := join_res hj HO.out (by rw [HTS.out]; exact HP.out) H46.out
        have HNu := Lib.hid (nb_join hj HN.out HM.out)
        have hus : u.size ≤ 1048576 := by rw [hj.size]; omega
        have hjz := hj.size
        rw [hu]
        clear hu hj
        refine (lex_any u _ hus (HC.out.below HB2.out) (.inl HNu.out)).mono ?_
        rintro e w3 ⟨v3, rfl, hV, hb3⟩
        have HB3 := Lib.hid (bel2 HB2.out hb3)
        have HU3 := Lib.hid (HU.out.below hb3)
        have HT3 := Lib.hid (HT.out.below hb3)
        have HV3 := Lib.hid hV
        obtain ⟨n1, rfl⟩ : ∃ n1, n = n1 + 1 := ⟨n - 1, by omega⟩
        have HF1 := Lib.hid hjr.fst
        have HF2 := Lib.hid hjr.snd
        have hlen := hjr.len
        have hbad := hjr.bad
        obtain ⟨us, hus2⟩ : ∃ us, (lexAll t).1.map (itOf t) = us := ⟨_, rfl⟩
        obtain ⟨vs, hvs2⟩ : ∃ vs, (lexAll u).1.map (itOf u) = vs := ⟨_, rfl⟩
        obtain ⟨m, hm⟩ : ∃ m, us.length = m := ⟨_, rfl⟩
        obtain ⟨l3, hl3⟩ : ∃ l3, vs.length = l3 := ⟨_, rfl⟩
        have h9 : (lexAll s).1.length = n1 + 1 := by have := HNn.out; rw [← HTS.out, List.length_map] at this; exact this
        have h10 : l3 = n1 + m := by rw [← hl3, ← hm, ← hus2, ← hvs2, List.length_map, List.length_map, hlen, h9]; omega
        have hm2 : m ≤ 16385 := by rw [← hm, ← hus2, List.length_map]; have := HEM.out.2.2.2; omega
        rw [hus2] at HU3 HF2
        rw [hvs2] at HV3 HF1 HF2
        rw [h9] at HF1 HF2
        rw [HTS.out] at HF1
        have HA1 := Lib.hid (show Alikes (ts.take n1) (vs.take n1) from ⟨by rw [List.length_take, List.length_take, HNn.out, hl3]; omega, fun i a b ha hb => by
          rw [List.getElem?_take] at ha hb
          by_cases hi : i < n1
          · rw [if_pos hi] at ha hb
            exact HF1.out i a b (by omega) ha hb
          · rw [if_neg hi] at ha
            cases ha⟩)
        have HA2 := Lib.hid (show Alikes us (vs.drop n1) from ⟨by rw [List.length_drop, hl3, hm]; omega, fun i a b ha hb => by
          rw [List.getElem?_drop] at hb
          exact HF2.out i a b ha (by rw [Nat.add_sub_cancel]; exact hb)⟩)
        have HNt := Lib.hid (show (ts.take n1).length = n1 by rw [List.length_take, HNn.out]; omega)
        have HNm := Lib.hid hm
        have w1' : IntKind.i64.wrap (((n1 + 1 : Nat) : Int) - 1) = (n1 : Int) := by rw [IntWalk.i64_in _ (by omega)]; omega
        have w2' : IntKind.i64.wrap ((n1 : Int) + (m : Int)) = (l3 : Int) := by rw [IntWalk.i64_in _ (by omega)]; omega
        clear hjr hb3 hV hlen
        have hV9 := HV3.out.shape
        have hU9 := HU3.out.shape
        rw [hm] at hU9
        rw [hl3] at hV9
        have HD := Lib.hid ((Below.refl w3.heap.size w3).drew)
        have HR1 := Lib.hid (Reads.take (ToksAt.reads HT3.out) n1)
        have HVN := Lib.hid hl3
        have HUS := Lib.hid hus2
        clear hus2 hvs2 hl3 hm hn0
        have z0 : (0 : Int) ≤ (n1 : Int) := by omega
        have z1 : (n1 : Int) ≤ (cap : Int) := by omega
        have z4 : n1 ≤ cap := by omega
        have c1 : ¬ cap = 0 := by omega
        have w4 : IntKind.i64.wrap (n1 : Int) = (n1 : Int) := IntWalk.i64_in _ (by omega)
        have w5 : IntKind.i64.wrap ((n1 : Int) + 1 - 1) = (n1 : Int) := by rw [IntWalk.i64_in _ (by omega)]; omega
        by_cases hm0 : m = 0
        · subst hm0
          obtain rfl : n1 = l3 := by omega
          clear h10
          obtain ⟨o, hot⟩ : ∃ o, (lexAll t).2 = some o := by
            cases h : (lexAll t).2 with
            | none => have h2 := HEM.out.2.2.1 h; have h3 := HNm.out; rw [← HUS.out, List.length_map] at h3; omega
            | some o => exact ⟨o, rfl⟩
          rw [hot] at hbad
          rw [hot]
          have hbn : (lexAll u).2.isNone = false := by rw [hbad]; rfl
          have hbw : (((lexAll u).2.getD 0 : Nat) : Int) = (o : Int) + (s.size : Int) + 1 := by
            rw [hbad]
            show ((o + (s.size + 1) : Nat) : Int) = _
            omega
          have hob := HEM.out.2.1 o hot
          have b1 : IntKind.i64.wrap ((o : Int) + (s.size : Int)) = (o : Int) + (s.size : Int) := IntWalk.i64_in _ (by omega)
          have b2 : IntKind.i64.wrap ((o : Int) + (s.size : Int) + 1) = (o : Int) + (s.size : Int) + 1 := IntWalk.i64_in _ (by omega)
          clear hbad hot hob
          obtain ⟨ao, c0, rfl⟩ : ∃ ao c0, v2 = .slice ao 0 c0 := by
            rcases hU9 with ⟨h, _⟩ | ⟨g2, cap2, h, _⟩
            · exact ⟨_, _, h⟩
            · exact ⟨_, _, h⟩
          clear hU9 HU3
          by_cases hn10 : n1 = 0
          · subst hn10
            obtain ⟨bo, c3, rfl⟩ : ∃ bo c3, v3 = .slice bo 0 c3 := by
              rcases hV9 with ⟨h, _⟩ | ⟨g2, cap2, h, _⟩
              · exact ⟨_, _, h⟩
              · exact ⟨_, _, h⟩
            clear hV9 HV3
            have y0 : (0 : Int) ≤ (cap : Int) := by omega
            have y1 : (0 : Int) ≤ (c3 : Int) := by omega
            clear w1' w2' w4 w5 z0 z1 z4
            have w0 : IntKind.i64.wrap 0 = 0 := IntWalk.i64_in _ (by omega)
            have w1 : IntKind.i64.wrap (1 - 1) = 0 := IntWalk.i64_in _ (by omega)
            have w6 : IntKind.i64.wrap (0 + 0) = 0 := IntWalk.i64_in _ (by omega)
            have w7 : IntKind.i64.wrap (((0 + 1 : Nat) : Int) - 1) = 0 := IntWalk.i64_in _ (by omega)
            by_cases hc3 : c3 = 0
            · subst hc3
              go_wp2_with fail
              go_region_held3 (fun w' => Below w3.heap.size w3 w') (first | exact HD.out | exact bel2 (by assumption) hb5) ((go_at_call 16; first | ((with_reducible refine (allAlike_nil _ _ _ _ _).mono ?_); rintro e w5 ⟨rfl, hb5⟩)))
              go_wp2_with fail
              go_ret
              exact ⟨rfl, bel2 HB3.out (by assumption)⟩
            · skip
              go_wp2_with fail
              go_region_held3 (fun w' => Below w3.heap.size w3 w') (first | exact HD.out | exact bel2 (by assumption) hb5) ((go_at_call 16; first | ((with_reducible refine (allAlike_nil _ _ _ _ _).mono ?_); rintro e w5 ⟨rfl, hb5⟩)))
              go_wp2_with fail
              go_ret
              exact ⟨rfl, bel2 HB3.out (by assumption)⟩
          · obtain ⟨g3, cap3, rfl, hc3⟩ : ∃ g3 cap3, v3 = .slice (some ⟨g3, 0, none⟩) n1 cap3 ∧ n1 ≤ cap3 := by
              rcases hV9 with ⟨_, h⟩ | ⟨g3, cap3, h, _, _, h4, _⟩
              · exfalso; have h3 := HVN.out; rw [h] at h3; exact hn10 h3.symm
              · exact ⟨_, _, h, h4⟩
            clear hV9
            have HR3 := Lib.hid (Reads.take (ToksAt.reads HV3.out) n1)
            have z2 : (n1 : Int) ≤ (cap3 : Int) := by omega
            have z5 : n1 ≤ cap3 := by omega
            have c2 : ¬ cap3 = 0 := by omega
            by_cases hc5 : n1 = cap3
            · subst hc5
              go_wp2_with fail
              go_region_held3 (fun w' => Below w3.heap.size w3 w') (first | exact HD.out | exact bel2 (by assumption) hb5) ((go_at_call 16; first | ((with_reducible refine (allAlike_yes g 0 g3 0 n1 _ _ (ts.take n1) (vs.take n1) _ HNt.out (by omega) (HR1.out.below (by assumption)) (HR3.out.below (by assumption)) HA1.out).mono ?_); rintro e w5 ⟨rfl, hb5⟩) | ((with_reducible refine (allAlike_nil _ _ _ _ _).mono ?_); rintro e w5 ⟨rfl, hb5⟩)))
              go_wp2_with fail
              go_ret
              exact ⟨rfl, bel2 HB3.out (by assumption)⟩
            · have hc6 : ¬ cap3 = n1 := fun h => hc5 h.symm
              clear hc5
              go_wp2_with fail
              go_region_held3 (fun w' => Below w3.heap.size w3 w') (first | exact HD.out | exact bel2 (by assumption) hb5) ((go_at_call 16; first | ((with_reducible refine (allAlike_yes g 0 g3 0 n1 _ _ (ts.take n1) (vs.take n1) _ HNt.out (by omega) (HR1.out.below (by assumption)) (HR3.out.below (by assumption)) HA1.out).mono ?_); rintro e w5 ⟨rfl, hb5⟩) | ((with_reducible refine (allAlike_nil _ _ _ _ _).mono ?_); rintro e w5 ⟨rfl, hb5⟩)))
              go_wp2_with fail
              go_ret
              exact ⟨rfl, bel2 HB3.out (by assumption)⟩
        · obtain ⟨g2, cap2, rfl⟩ : ∃ g2 cap2, v2 = .slice (some ⟨g2, 0, none⟩) m cap2 := by
            rcases hU9 with ⟨_, h⟩ | ⟨g2, cap2, h, _⟩
            · exfalso; have h3 := HNm.out; rw [h] at h3; exact hm0 h3.symm
            · exact ⟨_, _, h⟩
          obtain ⟨g3, cap3, rfl, hc3⟩ : ∃ g3 cap3, v3 = .slice (some ⟨g3, 0, none⟩) l3 cap3 ∧ l3 ≤ cap3 := by
            rcases hV9 with ⟨_, h⟩ | ⟨g3, cap3, h, _, _, h4, _⟩
            · exfalso; have h3 := HVN.out; rw [h] at h3; simp at h3; omega
            · exact ⟨_, _, h, h4⟩
          clear hV9 hU9
          have HR2 := Lib.hid (ToksAt.reads HU3.out)
          have HR3 := Lib.hid (Reads.take (ToksAt.reads HV3.out) n1)
          have HR4 := Lib.hid (Reads.drop (ToksAt.reads HV3.out) n1)
          subst h10
          have z2 : (n1 : Int) ≤ (cap3 : Int) := by omega
          have z3 : (n1 : Int) ≤ (n1 : Int) + (m : Int) := by omega
          have z5 : n1 ≤ cap3 := by omega
          have z6 : n1 ≤ n1 + m := by omega
          have c2 : ¬ cap3 = 0 := by omega
          have c3 : ¬ cap3 = n1 := by omega
          cases hot : (lexAll t).2 with
          | none =>
            rw [hot] at hbad
            have hb0 : (lexAll u).2.isNone = true := by rw [hbad]; rfl
            clear hbad hot
            go_wp2_with fail
            go_region_held3 (fun w' => Below w3.heap.size w3 w') (first | exact HD.out | exact bel2 (by assumption) hb5) ((go_at_call 16; first | ((with_reducible refine (allAlike_yes g 0 g3 0 n1 _ _ (ts.take n1) (vs.take n1) _ HNt.out (by omega) (HR1.out.below (by assumption)) (HR3.out.below (by assumption)) HA1.out).mono ?_); rintro e w5 ⟨rfl, hb5⟩) | ((with_reducible refine (allAlike_yes g2 0 g3 (n1 * 8) m cap2 (cap3 - n1) us (vs.drop n1) _ HNm.out (by omega) (HR2.out.below (by assumption)) (HR4.out.below (by assumption)) HA2.out).mono ?_); rintro e w5 ⟨rfl, hb5⟩)))
            go_wp2_with fail
            go_ret
            exact ⟨rfl, bel2 HB3.out (by assumption)⟩
          | some o =>
            rw [hot] at hbad
            have hbn : (lexAll u).2.isNone = false := by rw [hbad]; rfl
            have hbw : (((lexAll u).2.getD 0 : Nat) : Int) = (o : Int) + (s.size : Int) + 1 := by
              rw [hbad]
              show ((o + (s.size + 1) : Nat) : Int) = _
              omega
            have hob := HEM.out.2.1 o hot
            have b1 : IntKind.i64.wrap ((o : Int) + (s.size : Int)) = (o : Int) + (s.size : Int) := IntWalk.i64_in _ (by omega)
            have b2 : IntKind.i64.wrap ((o : Int) + (s.size : Int) + 1) = (o : Int) + (s.size : Int) + 1 := IntWalk.i64_in _ (by omega)
            clear hbad hot hob
            go_wp2_with fail
            go_region_held3 (fun w' => Below w3.heap.size w3 w') (first | exact HD.out | exact bel2 (by assumption) hb5) ((go_at_call 16; first | ((with_reducible refine (allAlike_yes g 0 g3 0 n1 _ _ (ts.take n1) (vs.take n1) _ HNt.out (by omega) (HR1.out.below (by assumption)) (HR3.out.below (by assumption)) HA1.out).mono ?_); rintro e w5 ⟨rfl, hb5⟩) | ((with_reducible refine (allAlike_yes g2 0 g3 (n1 * 8) m cap2 (cap3 - n1) us (vs.drop n1) _ HNm.out (by omega) (HR2.out.below (by assumption)) (HR4.out.below (by assumption)) HA2.out).mono ?_); rintro e w5 ⟨rfl, hb5⟩)))
            go_wp2_with fail
            go_ret
            exact ⟨rfl, bel2 HB3.out (by assumption)⟩

set_option maxRecDepth 10000 in
theorem joins_any (s t : ByteArray) (w : World) (hs : s.size ≤ 9223372036854775807) (ht : t.size ≤ 9223372036854775807) (hc : Ctx w) : Calls Tryz.prog 5 #[.string s, .string t] w (TrueRes w) := by
  have HC := Lib.hid hc
  clear hc
  by_cases h1 : 2147483647 < s.size
  · have d1 : (2147483647 : Int) < (s.size : Int) := by omega
    go_enter Tryz.func5, Tryz.ntmps5
    go_wp2_with fail
    go_ret
    exact ⟨rfl, Below.refl _ _⟩
  · have d1 : ¬ (2147483647 : Int) < (s.size : Int) := by omega
    by_cases h1t : 2147483647 < t.size
    · have d2 : (2147483647 : Int) < (t.size : Int) := by omega
      go_enter Tryz.func5, Tryz.ntmps5
      go_wp2_with fail
      go_ret
      exact ⟨rfl, Below.refl _ _⟩
    · have d2 : ¬ (2147483647 : Int) < (t.size : Int) := by omega
      have d4 : IntKind.i64.wrap ((s.size : Int) + (t.size : Int)) = (s.size : Int) + (t.size : Int) := IntWalk.i64_in _ (by omega)
      by_cases h2 : 16384 < s.size + t.size
      · have d3 : (16384 : Int) < (s.size : Int) + (t.size : Int) := by omega
        go_enter Tryz.func5, Tryz.ntmps5
        go_wp2_with fail
        refine (lexes_any _ HC.out).mono ?_
        rintro e w3 ⟨rfl, hb3⟩
        go_wp2_with fail
        go_ret
        exact ⟨rfl, hb3⟩
      · by_cases h3 : NB s
        · by_cases h4 : NB t
          · exact joins_main s t w (by omega) h3 h4 HC.out
          · have d3 : ¬ (16384 : Int) < (s.size : Int) + (t.size : Int) := by omega
            have HN := Lib.hid h3
            have HM := Lib.hid h4
            clear h3 h4
            go_enter Tryz.func5, Tryz.ntmps5
            go_wp2_with (go_at_call 10; first | ((with_reducible refine (brittle_no s _ (by omega) HN.out).mono ?_); rintro e w' ⟨rfl, rfl⟩) | ((with_reducible refine (brittle_yes t _ (by omega) HM.out).mono ?_); rintro e w' ⟨rfl, rfl⟩))
            refine (lexes_any _ HC.out).mono ?_
            rintro e w3 ⟨rfl, hb3⟩
            go_wp2_with fail
            go_ret
            exact ⟨rfl, hb3⟩
        · have d3 : ¬ (16384 : Int) < (s.size : Int) + (t.size : Int) := by omega
          have HN := Lib.hid h3
          clear h3
          go_enter Tryz.func5, Tryz.ntmps5
          go_wp2_with (go_at_call 10; refine (brittle_yes s _ (by omega) HN.out).mono ?_; rintro e w' ⟨rfl, rfl⟩)
          refine (lexes_any _ HC.out).mono ?_
          rintro e w3 ⟨rfl, hb3⟩
          go_wp2_with fail
          go_ret
          exact ⟨rfl, hb3⟩

end Go.Proofs.YtngofbhlhcalpaaGreatDoor.lexer
