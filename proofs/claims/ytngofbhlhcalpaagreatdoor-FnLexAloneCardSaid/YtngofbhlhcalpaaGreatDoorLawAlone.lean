/-
  Contract of laws.FnLexAlone. No statement of the seat is proved here.
-/
import Derived.Deep.LoopGhost
import Derived.Deep.RegionHeld3
import Derived.Test.YtngofbhlhcalpaaGreatDoorZ36
import Derived.Test.YtngofbhlhcalpaaGreatDoorZ02
namespace Go.Proofs.YtngofbhlhcalpaaGreatDoor.lexer
open Go.RowKit Go.Proofs.YtngofbhlhcalpaaGreatDoor.gen

theorem raw_of (s : ByteArray) (e : Nat × Nt) : (itOf s e).raw.data.toList = rawOf s.data.toList e := raw_view s e

/-- What a token says when it is read by itself. -/
theorem alone_tok {s : ByteArray} {k : Nat} {e : Nat × Nt} (hs : (lexAll s).2 = none) (hp : ∀ t ∈ (lexAll s).1.map (itOf s), ¬ Pt t) (he : (lexAll s).1[k]? = some e) (hg : Good e.2.tk) :
    ∃ r2, lexAll (itOf s e).raw = ([(0, ⟨[], 0, e.2.tk⟩), r2], none) ∧ Alike (itOf s e) (itOf (itOf s e).raw (0, ⟨[], 0, e.2.tk⟩)) ∧ (itOf (itOf s e).raw (0, ⟨[], 0, e.2.tk⟩)).pos = 0 ∧ (itOf (itOf s e).raw (0, ⟨[], 0, e.2.tk⟩)).en = ((itOf s e).raw.size : Int) ∧ (itOf s e).raw.size = e.2.tk.n := by
  have hl : Lexd kNone false s.data.toList 0 (lexAll s).1 := lexd_of _ _ _ _ _ _ (Nat.le_refl _) (Prod.ext rfl hs)
  have hm := List.mem_of_getElem? he
  have h1 := alone_all (S := s.data.toList) hl rfl rfl (fun e' he' r => by
    have := hp _ (List.mem_map.2 ⟨e', he', rfl⟩)
    intro e2
    apply this
    right
    exact ⟨r, by rw [raw_of]; exact e2⟩) e hm hg
  have hel := (lexAll_elem s).1 k e he
  have hsz : (itOf s e).raw.size = e.2.tk.n := by
    show (s.extract (e.1 + e.2.pre) (e.1 + e.2.len)).size = _
    have := hel.2.1
    rw [ByteArray.size_extract]
    unfold Nt.len at this ⊢
    omega
  refine ⟨(e.2.tk.n, ⟨[], 0, plain kEof 0⟩), ?_, ⟨rfl, ?_, rfl, rfl⟩, ?_, ?_, hsz⟩
  · unfold lexAll
    rw [raw_of]
    exact h1
  · have e0 : (⟨[], 0, e.2.tk⟩ : Nt).pre = 0 := rfl
    have e1 : (⟨[], 0, e.2.tk⟩ : Nt).len = e.2.tk.n := by simp [Nt.len, e0]
    show (itOf s e).raw = (itOf s e).raw.extract (0 + (⟨[], 0, e.2.tk⟩ : Nt).pre) (0 + (⟨[], 0, e.2.tk⟩ : Nt).len)
    rw [e0, e1, Nat.zero_add, Nat.zero_add, ← hsz]
    refine ba_ext' ?_
    rw [ext_raw', List.drop_zero, Nat.sub_zero, List.take_of_length_le]
    rw [len_list]; exact Nat.le_refl _
  · rfl
  · have e1 : (⟨[], 0, e.2.tk⟩ : Nt).len = e.2.tk.n := by simp [Nt.len, Nt.pre, comsLen]
    show (((0 + (⟨[], 0, e.2.tk⟩ : Nt).len : Nat)) : Int) = _
    rw [e1, hsz, Nat.zero_add]

theorem alone_tok2 {s : ByteArray} {k : Nat} {e : Nat × Nt} (hs : (lexAll s).2 = none) (hp : ∀ t ∈ (lexAll s).1.map (itOf s), ¬ Pt t) (he : (lexAll s).1[k]? = some e) (hg : Good e.2.tk) :
    ∃ u u2, (lexAll (itOf s e).raw).1.map (itOf (itOf s e).raw) = [u, u2] ∧ (lexAll (itOf s e).raw).2 = none ∧ Alike (itOf s e) u ∧ u.pos = 0 ∧ u.en = ((itOf s e).raw.size : Int) ∧ (itOf s e).raw.size ≤ s.size := by
  obtain ⟨r2, h1, h2, h3, h4, h5⟩ := alone_tok hs hp he hg
  refine ⟨_, itOf (itOf s e).raw r2, by rw [h1]; rfl, by rw [h1], h2, h3, h4, ?_⟩
  show (s.extract _ _).size ≤ _
  rw [ByteArray.size_extract]; omega

theorem raw_small' {s : ByteArray} {ts : List (Nat × Nt)} (h : s.size ≤ 2147483647) : ∀ t ∈ ts.map (itOf s), t.raw.size ≤ 2147483647 := fun t ht => by
  obtain ⟨e, _, rfl⟩ := List.mem_map.1 ht
  show (s.extract _ _).size ≤ _
  rw [ByteArray.size_extract]; omega

set_option maxRecDepth 100000 in
set_option maxHeartbeats 8000000 in
theorem alone_main (s : ByteArray) (w : World) (hs : s.size ≤ 16384) (hN : NB s) (hc : Ctx w) : Calls Tryz.prog 3 #[.string s] w (TrueRes w) := by
  have HC := Lib.hid hc
  have HN := Lib.hid hN
  have HEL := Lib.hid (lexAll_elem s)
  have d1 : decide ((2147483647 : Int) < (s.size : Int)) = false := by simp; omega
  have d2 : decide ((16384 : Int) < (s.size : Int)) = false := by simp; omega
  clear hc hN
  go_enter Tryz.func3, Tryz.ntmps3
  go_wp2_with (go_at_call 10; refine (brittle_no s _ (by omega) HN.out).mono ?_; rintro e w' ⟨rfl, rfl⟩)
  refine (lex_any s _ (by omega) HC.out (.inl HN.out)).mono ?_
  rintro e w1 ⟨v, rfl, hT, hb⟩
  have HT := Lib.hid hT
  have HB := Lib.hid hb
  clear hT hb
  cases ho : (lexAll s).2 with
  | some o =>
    clear ho
    go_wp2_with fail
    refine (lexes_any _ (HC.out.below HB.out)).mono ?_
    rintro e w3 ⟨rfl, hb3⟩
    have HB3 := Lib.hid (bel2 HB.out hb3)
    clear hb3
    go_wp2_with fail
    go_ret
    exact ⟨rfl, HB3.out⟩
  | none =>
    have HO := Lib.hid ho
    clear ho
    obtain ⟨ts, hts⟩ : ∃ ts, (lexAll s).1.map (itOf s) = ts := ⟨_, rfl⟩
    obtain ⟨n, hn⟩ : ∃ n, ts.length = n := ⟨_, rfl⟩
    have hn0 : 0 < n := by
      rw [← hn, ← hts, List.length_map]; exact HEL.out.2.2.1 HO.out
    have hn2 : n ≤ 16385 := by
      rw [← hn, ← hts, List.length_map]; have := HEL.out.2.2.2; omega
    have HZ := Lib.hid (show ∀ t ∈ ts, t.raw.size ≤ 2147483647 by rw [← hts]; exact raw_small' (by omega))
    rw [hts] at HT
    obtain ⟨g, cap, hv⟩ : ∃ g cap, v = .slice (some ⟨g, 0, none⟩) n cap := by
      rcases HT.out.shape with ⟨_, h3⟩ | ⟨g, cap, h3, _⟩
      · rw [h3] at hn; simp at hn; omega
      · rw [hn] at h3; exact ⟨g, cap, h3⟩
    subst hv
    have HTS := Lib.hid hts
    have HNn := Lib.hid hn
    clear hts hn
    by_cases hp : ∃ t ∈ ts, Pt t
    · have HP := Lib.hid hp
      clear hp
      go_wp2_with (go_at_call 13; refine (fields_yes _ _ _ _ ts _ HNn.out.symm (by omega) HT.out HZ.out HP.out).mono ?_; rintro e w' ⟨rfl, rfl⟩)
      refine (lexes_any _ (HC.out.below HB.out)).mono ?_
      rintro e w3 ⟨rfl, hb3⟩
      have HB3 := Lib.hid (bel2 HB.out hb3)
      clear hb3
      go_wp2_with fail
      go_ret
      exact ⟨rfl, HB3.out⟩
    · have HP := Lib.hid (show ∀ t ∈ ts, ¬ Pt t from fun t ht h => hp ⟨t, ht, h⟩)
      clear hp
      have hi : (0 : Int) < (n : Int) := by omega
      go_wp2_with (go_at_call 13; refine (fields_no _ _ _ _ ts _ HNn.out.symm (by omega) HT.out HZ.out HP.out).mono ?_; rintro e w' ⟨rfl, rfl⟩)
      go_loopg [36] n (fun g' i wr => ∃ k : Nat, g' = n - k ∧ i = .int .i64 k ∧ k ≤ n ∧ Hid (Below w1.heap.size w1 wr))
      case atStart => exact ⟨0, rfl, rfl, Nat.zero_le _, Below.refl _ _⟩
      case round =>
        obtain ⟨k, hg, rfl, hkn, HB2⟩ := hrel
        by_cases hlt : k < n
        · have hkl : k < (lexAll s).1.length := by
            have h1 := HNn.out
            rw [← HTS.out, List.length_map] at h1
            omega
          obtain ⟨x, hx⟩ : ∃ x, (lexAll s).1[k]? = some x := ⟨_, List.getElem?_eq_getElem hkl⟩
          have hxt : ts[k]? = some (itOf s x) := by rw [← HTS.out, List.getElem?_map, hx]; rfl
          have hel := HEL.out.1 k x hx
          have h3 := hel.2.2
          have hal := fun hg => alone_tok2 HO.out (by rw [HTS.out]; exact HP.out) hx hg
          have hef := elem_facts hel
          have hkd : (itOf s x).kind = x.2.tk.kind := rfl
          obtain ⟨t, ht⟩ : ∃ t, itOf s x = t := ⟨_, rfl⟩
          rw [ht] at hxt hal hef hkd
          obtain ⟨q0, q1, q2, q3, q4, q5, q6, ca, cn, cc, q7, _⟩ := (HT.out.below HB2.out).at_ k _ hxt
          have hi0 : (0 : Int) ≤ (k : Int) := by omega
          have hi1 : (k : Int) < (n : Int) := by omega
          have hkw : IntKind.i64.wrap ((k : Int) + 1) = (k : Int) + 1 := IntWalk.i64_in _ (by omega)
          clear hx hel ht hxt
          rcases h3 with ⟨h4, _⟩ | ⟨h4, h5, h6⟩
          · obtain ⟨u, u2, a1, a2, a3, a4, a5, a6⟩ := hal h4
            have he1 : (t.kind.toList == [60, 101, 111, 102, 62]) = false := by
              rcases hef with ⟨f1, _⟩ | ⟨f1, _⟩
              · exact f1
              · exfalso
                rw [hkd, beq_iff_eq, toList_data] at f1
                exact kind_ne_list h4.2 (by rw [← beq_iff_eq, beq_iff_eq]; exact f1)
            clear hef hal h4 hkd
            have HA := Lib.hid (show Alike t ⟨u.kind, u.space, u.raw, u.text, u.base, 0, (t.raw.size : Int), u.coms⟩ from ⟨a3.1, a3.2, a3.3, a3.4⟩)
            have A1 := Lib.hid a1
            have A2 := Lib.hid a2
            have A4 := Lib.hid a4
            have A5 := Lib.hid a5
            clear a1 a2 a3 a4 a5
            have hr : t.raw.size ≤ 1048576 := by omega
            go_wp2_with fail
            refine (lex_any t.raw _ hr ((HC.out.below HB.out).below HB2.out) (.inr A2.out)).mono ?_
            rintro e w3 ⟨v2, rfl, hT2, hb3⟩
            rw [A1.out] at hT2
            have e1 : (lexAll t.raw).2.isNone = true := by rw [A2.out]; rfl
            obtain ⟨g2, cap2, hv⟩ : ∃ g2 cap2, v2 = .slice (some ⟨g2, 0, none⟩) 2 cap2 := by
              rcases hT2.shape with ⟨_, h3⟩ | ⟨g, cap, h3, _⟩
              · cases h3
              · exact ⟨g, cap, h3⟩
            subst hv
            obtain ⟨u0, u1, u2', u3, u4, u5, u6, da, dn, dc, u7, _⟩ := hT2.at_ 0 _ rfl
            rw [A4.out] at u5
            rw [A5.out] at u6
            have HB4 := Lib.hid (bel2 HB2.out hb3)
            have hkeep : ∀ w' : World, Below w3.heap.size w3 w' → (w'.cell? ⟨g, k * 8, none⟩ = some (.string t.kind) ∧ w'.cell? ⟨g, k * 8 + 1, none⟩ = some (.string t.space) ∧ w'.cell? ⟨g, k * 8 + 2, none⟩ = some (.string t.raw) ∧ w'.cell? ⟨g, k * 8 + 3, none⟩ = some (.string t.text) ∧ w'.cell? ⟨g, k * 8 + 4, none⟩ = some (.int .i64 t.base) ∧ w'.cell? ⟨g, k * 8 + 5, none⟩ = some (.int .i64 t.pos) ∧ w'.cell? ⟨g, k * 8 + 6, none⟩ = some (.int .i64 t.en) ∧ w'.cell? ⟨g, k * 8 + 7, none⟩ = some (.slice ca cn cc) ∧ w'.cell? ⟨g2, 0, none⟩ = some (.string u.kind) ∧ w'.cell? ⟨g2, 1, none⟩ = some (.string u.space) ∧ w'.cell? ⟨g2, 2, none⟩ = some (.string u.raw) ∧ w'.cell? ⟨g2, 3, none⟩ = some (.string u.text) ∧ w'.cell? ⟨g2, 4, none⟩ = some (.int .i64 u.base) ∧ w'.cell? ⟨g2, 5, none⟩ = some (.int .i64 0) ∧ w'.cell? ⟨g2, 6, none⟩ = some (.int .i64 (t.raw.size : Int)) ∧ w'.cell? ⟨g2, 7, none⟩ = some (.slice da dn dc)) := fun w' hb => by
              have hg1 : g < wr.heap.size := World.block_lt_of_cell? _ _ q0
              have hg1' : g < w3.heap.size := Nat.lt_of_lt_of_le hg1 hb3.size
              have hg2 : g2 < w3.heap.size := World.block_lt_of_cell? _ _ u0
              have k1 : ∀ i, w'.cell? ⟨g, i, none⟩ = wr.cell? ⟨g, i, none⟩ := fun i => (hb.cell (p := ⟨g, i, none⟩) hg1').trans (hb3.cell (p := ⟨g, i, none⟩) hg1)
              have k2 : ∀ i, w'.cell? ⟨g2, i, none⟩ = w3.cell? ⟨g2, i, none⟩ := fun i => hb.cell (p := ⟨g2, i, none⟩) hg2
              exact ⟨(k1 _).trans q0, (k1 _).trans q1, (k1 _).trans q2, (k1 _).trans q3, (k1 _).trans q4, (k1 _).trans q5, (k1 _).trans q6, (k1 _).trans q7, (k2 _).trans u0, (k2 _).trans u1, (k2 _).trans u2', (k2 _).trans u3, (k2 _).trans u4, (k2 _).trans u5, (k2 _).trans u6, (k2 _).trans u7⟩
            have HKp := Lib.hid hkeep
            have HD := Lib.hid ((Below.refl w3.heap.size w3).drew)
            clear hkeep hT2 hb3 q0 q1 q2 q3 q4 q5 q6 q7 u0 u1 u2' u3 u4 u5 u6 u7
            go_wp2_with fail
            go_region_held3 (fun w' => w'.cell? ⟨g, k * 8, none⟩ = some (.string t.kind) ∧ w'.cell? ⟨g, k * 8 + 1, none⟩ = some (.string t.space) ∧ w'.cell? ⟨g, k * 8 + 2, none⟩ = some (.string t.raw) ∧ w'.cell? ⟨g, k * 8 + 3, none⟩ = some (.string t.text) ∧ w'.cell? ⟨g, k * 8 + 4, none⟩ = some (.int .i64 t.base) ∧ w'.cell? ⟨g, k * 8 + 5, none⟩ = some (.int .i64 t.pos) ∧ w'.cell? ⟨g, k * 8 + 6, none⟩ = some (.int .i64 t.en) ∧ w'.cell? ⟨g, k * 8 + 7, none⟩ = some (.slice ca cn cc) ∧ w'.cell? ⟨g2, 0, none⟩ = some (.string u.kind) ∧ w'.cell? ⟨g2, 1, none⟩ = some (.string u.space) ∧ w'.cell? ⟨g2, 2, none⟩ = some (.string u.raw) ∧ w'.cell? ⟨g2, 3, none⟩ = some (.string u.text) ∧ w'.cell? ⟨g2, 4, none⟩ = some (.int .i64 u.base) ∧ w'.cell? ⟨g2, 5, none⟩ = some (.int .i64 0) ∧ w'.cell? ⟨g2, 6, none⟩ = some (.int .i64 (t.raw.size : Int)) ∧ w'.cell? ⟨g2, 7, none⟩ = some (.slice da dn dc)) (first | exact HKp.out _ HD.out | exact HKp.out _ (HD.out.trans (hb5.mono (Nat.le_refl _)))) ((go_at_call 14; refine (alike_yes t ⟨u.kind, u.space, u.raw, u.text, u.base, 0, (t.raw.size : Int), u.coms⟩ _ _ _ _ _ _ _ HA.out).mono ?_; rintro e w5 ⟨rfl, hb5⟩))
            have HB5 := Lib.hid (bel2' HB4.out (HD.out.trans (hb5.mono (Nat.le_refl _))))
            go_wp2_with fail
            go_roundg (n - (k + 1))
            case measure => omega
            case rel => exact ⟨k + 1, rfl, by go_num, by omega, HB5⟩
          · have he1 : (t.kind.toList == [60, 101, 111, 102, 62]) = true := by
              rw [beq_iff_eq, toList_data, hkd, h4]; rfl
            clear hef hal h4 hkd
            go_wp2_with fail
            go_roundg (n - (k + 1))
            case measure => omega
            case rel => exact ⟨k + 1, rfl, by go_num, by omega, HB2⟩
        · go_wp2_with fail
          go_ret
          exact ⟨by first | rfl | exact ret_bool (decide_eq_true hi), bel2 HB.out HB2.out⟩

set_option maxRecDepth 10000 in
theorem alone_any (s : ByteArray) (w : World) (hs : s.size ≤ 9223372036854775807) (hc : Ctx w) : Calls Tryz.prog 3 #[.string s] w (TrueRes w) := by
  have HC := Lib.hid hc
  clear hc
  by_cases h1 : 2147483647 < s.size
  · have d1 : (2147483647 : Int) < (s.size : Int) := by omega
    go_enter Tryz.func3, Tryz.ntmps3
    go_wp2_with fail
    go_ret
    exact ⟨rfl, Below.refl _ _⟩
  · by_cases h2 : 16384 < s.size
    · have d1 : ¬ (2147483647 : Int) < (s.size : Int) := by omega
      have d2 : (16384 : Int) < (s.size : Int) := by omega
      go_enter Tryz.func3, Tryz.ntmps3
      go_wp2_with fail
      refine (lexes_any _ HC.out).mono ?_
      rintro e w3 ⟨rfl, hb3⟩
      go_wp2_with fail
      go_ret
      exact ⟨rfl, hb3⟩
    · by_cases h3 : NB s
      · exact alone_main s w (by omega) h3 HC.out
      · have d1 : ¬ (2147483647 : Int) < (s.size : Int) := by omega
        have d2 : ¬ (16384 : Int) < (s.size : Int) := by omega
        have HN := Lib.hid h3
        clear h3
        go_enter Tryz.func3, Tryz.ntmps3
        go_wp2_with (go_at_call 10; refine (brittle_yes s _ (by omega) HN.out).mono ?_; rintro e w' ⟨rfl, rfl⟩)
        refine (lexes_any _ HC.out).mono ?_
        rintro e w3 ⟨rfl, hb3⟩
        go_wp2_with fail
        go_ret
        exact ⟨rfl, hb3⟩

end Go.Proofs.YtngofbhlhcalpaaGreatDoor.lexer
