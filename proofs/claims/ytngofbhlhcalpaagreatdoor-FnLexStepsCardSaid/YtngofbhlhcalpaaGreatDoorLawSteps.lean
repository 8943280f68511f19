/-
  Contract of laws.FnLexSteps. No statement of the seat is proved here.
-/
import Derived.Deep.LoopGhost
import Derived.Deep.RegionHeld3
import Derived.Deep.QuietTactic
import Derived.BigQuiet
import Derived.Test.YtngofbhlhcalpaaGreatDoorZ36
import Derived.Test.YtngofbhlhcalpaaGreatDoorZ02
import Derived.Test.YtngofbhlhcalpaaGreatDoorFromW
import Derived.Test.YtngofbhlhcalpaaGreatDoorZ03
namespace Go.Proofs.YtngofbhlhcalpaaGreatDoor.lexer
open Go.RowKit Go.Proofs.YtngofbhlhcalpaaGreatDoor.gen

/-- How far the text has been read, token by token. -/
structure Stp (s : ByteArray) (k : Nat) (last : ByteArray) (p : Nat) (dot : Bool) : Prop where
  rest : (lexAll s).1.drop k = (lexL last dot (suf s p) p).1
  bad : (lexAll s).2 = (lexL last dot (suf s p) p).2
  pz : p ≤ s.size
  kn : k ≤ (lexAll s).1.length

theorem Stp.start (s : ByteArray) : Stp s 0 kNone 0 false := ⟨by rw [List.drop_zero]; rfl, rfl, Nat.zero_le _, Nat.zero_le _⟩

theorem Stp.ok {s last : ByteArray} {k p : Nat} {dot : Bool} {t : Nt} (h : Stp s k last p dot) (hn : next last dot (suf s p) = .ok t) :
    (lexAll s).1[k]? = some (p, t) ∧ k < (lexAll s).1.length ∧ ((t.tk = plain kEof 0 ∧ (lexAll s).2 = none ∧ k + 1 = (lexAll s).1.length) ∨ (Good t.tk ∧ Stp s (k + 1) t.tk.kind (p + t.len) (dotOf dot t.tk))) := by
  have hk := next_ok hn
  have key : ∀ r, (lexAll s).1.drop k = (p, t) :: r → (lexAll s).1[k]? = some (p, t) ∧ k < (lexAll s).1.length ∧ (lexAll s).1.drop (k + 1) = r := fun r e => by
    have h1 := congrArg (·[0]?) e
    simp only [List.getElem?_drop, Nat.add_zero, List.getElem?_cons_zero] at h1
    refine ⟨h1, (List.getElem?_eq_some_iff.1 h1).1, ?_⟩
    rw [← List.drop_drop, e]; rfl
  rcases hk.2.2.2.2.2.2 with h1 | h1
  · have e := h.rest
    have b := h.bad
    rw [lexL_eof p hn h1.1] at e b
    obtain ⟨a1, a2, a3⟩ := key _ e
    refine ⟨a1, a2, .inl ⟨h1.1, b, ?_⟩⟩
    have := congrArg List.length a3
    simp only [List.length_drop, List.length_nil] at this
    omega
  · have e := h.rest
    have b := h.bad
    rw [lexL_more p hn h1.1] at e b
    obtain ⟨a1, a2, a3⟩ := key _ e
    have hl : t.len ≤ (suf s p).length := by unfold Nt.len; exact hk.2.2.2.2.2.1
    refine ⟨a1, a2, .inr ⟨h1.1, ?_, ?_, ?_, by omega⟩⟩
    · rw [a3, suf_drop]
    · rw [b, suf_drop]
    · rw [suf_len] at hl; have := h.pz; omega

theorem Stp.no {s last : ByteArray} {k p off : Nat} {dot : Bool} (h : Stp s k last p dot) (hn : next last dot (suf s p) = .bad off) : k = (lexAll s).1.length ∧ (lexAll s).2 = some (p + off) := by
  have e := h.rest
  have b := h.bad
  rw [lexL_bad p hn] at e b
  refine ⟨?_, b⟩
  have := congrArg List.length e
  simp only [List.length_drop, List.length_nil] at this
  have := h.kn
  omega

set_option maxRecDepth 100000 in
set_option maxHeartbeats 4000000 in
theorem steps_main (s : ByteArray) (w : World) (hs : s.size ≤ 16384) (hN : NB s) (hc : Ctx w) : Calls Tryz.prog 7 #[.string s] w (TrueRes w) := by
  have HC := Lib.hid hc
  have HN := Lib.hid hN
  have HEL := Lib.hid (lexAll_elem s)
  have d1 : decide ((2147483647 : Int) < (s.size : Int)) = false := by simp; omega
  have d2 : decide ((16384 : Int) < (s.size : Int)) = false := by simp; omega
  clear hc hN
  go_enter Tryz.func7, Tryz.ntmps7
  go_wp2_with (go_at_call 10; refine (brittle_no s _ (by omega) HN.out).mono ?_; rintro e w' ⟨rfl, rfl⟩)
  refine (lex_any s _ (by omega) HC.out (.inl HN.out)).mono ?_
  rintro e w1 ⟨v, rfl, hT, hb⟩
  have HT := Lib.hid hT
  have HB := Lib.hid hb
  obtain ⟨n, hn⟩ : ∃ n, (lexAll s).1.length = n := ⟨_, rfl⟩
  have hn2 : n ≤ 16385 := by rw [← hn]; have := HEL.out.2.2.2; omega
  obtain ⟨ao, cap, hv⟩ : ∃ ao cap, v = .slice ao n cap := by
    rcases hT.shape with ⟨h1, h2⟩ | ⟨g, cap, h1, _⟩
    · have h3 : n = 0 := by rw [← hn, List.map_eq_nil_iff.1 h2]; rfl
      exact ⟨none, 0, by rw [h3]; exact h1⟩
    · rw [List.length_map, hn] at h1; exact ⟨_, _, h1⟩
  subst hv
  have HNn := Lib.hid hn
  have HAO := Lib.hid (show ∀ k, k < n → ∃ g, ao = some ⟨g, 0, none⟩ from fun k hk => by
    rcases hT.shape with ⟨h1, h2⟩ | ⟨g, cap, h1, _⟩
    · have h3 : n = 0 := by rw [← hn, List.map_eq_nil_iff.1 h2]; rfl
      omega
    · cases h1; exact ⟨g, rfl⟩)
  clear hT hb hn
  go_wp2_with fail
  go_loopg [9, 6, 7, 8] (n + 1) (fun g' i f l d wr => ∃ (k p : Nat) (last : ByteArray) (dot : Bool), g' = n + 1 - k ∧ i = .int .i64 k ∧ f = .int .i64 p ∧ l = .string last ∧ d = .bool dot ∧ k ≤ n ∧ Hid (Stp s k last p dot) ∧ Hid (Below w1.heap.size w1 wr))
  case atStart => exact ⟨0, 0, kNone, false, rfl, rfl, rfl, rfl, rfl, Nat.zero_le _, Stp.start s, Below.refl _ _⟩
  case round =>
    obtain ⟨k, p, last, dot, hg, rfl, rfl, rfl, rfl, hkn, HSt, HB2⟩ := hrel
    have hle : (k : Int) ≤ (n : Int) := by omega
    go_wp2_with fail
    refine (lexFrom_any s last p dot _ (by omega) HSt.out.pz ((HC.out.below HB.out).below HB2.out) (.inl HN.out)).mono ?_
    intro e w2 hres
    rcases hres with ⟨t, ca, cn, cc, ho, rfl, hcI, hb3⟩ | ⟨off, ho, rfl, hb3⟩
    · obtain ⟨a1, a2, a3⟩ := HSt.out.ok ho
      obtain ⟨T, hT⟩ : ∃ T, itOf s (p, t) = T := ⟨_, rfl⟩
      have hTk : T.kind = t.tk.kind := by rw [← hT]; rfl
      have hTe : T.en = ((p + t.len : Nat) : Int) := by rw [← hT]; rfl
      have hTc : T.coms.length ≤ 1048576 := by rw [← hT]; exact coms_bound (x := fromX last p dot) ho (by omega)
      have hkl : k < n := by rw [← HNn.out]; exact a2
      have hxt : ((lexAll s).1.map (itOf s))[k]? = some T := by rw [List.getElem?_map, a1]; exact congrArg some hT
      obtain ⟨g, rfl⟩ := HAO.out k hkl
      rw [hT] at hcI ⊢
      rw [show T.agg (.slice ca cn cc) = .agg #[.string T.kind, .string T.space, .string T.raw, .string T.text, .int .i64 T.base, .int .i64 T.pos, .int .i64 T.en, .slice ca cn cc] from rfl]
      have HB3 := Lib.hid (bel2 HB2.out hb3)
      have hkn9 : ((k : Int) == (n : Int)) = false := by rw [beq_eq_false_iff_ne]; omega
      have hi0 : (0 : Int) ≤ (k : Int) := by omega
      have hi1 : (k : Int) < (n : Int) := by omega
      have hkw : IntKind.i64.wrap ((k : Int) + 1) = (k : Int) + 1 := IntWalk.i64_in _ (by omega)
      have HCI := Lib.hid hcI
      have HA3 := Lib.hid a3
      have HTk := Lib.hid hTk
      have HTe := Lib.hid hTe
      have HXT := Lib.hid hxt
      have HW3 := Lib.hid hb3
      clear a1 a2 a3 ho hT hTk hTe hxt hcI hb3 HAO
      go_wp2_with fail
      obtain ⟨W3, hW3⟩ : ∃ W3, w2.alloc (.cells #[.string T.kind, .string T.space, .string T.raw, .string T.text, .int .i64 T.base, .int .i64 T.pos, .int .i64 T.en, .slice ca cn cc] 30) = W3 := ⟨_, rfl⟩
      have hblk : W3.heap[w2.heap.size]? = some (.cells #[.string T.kind, .string T.space, .string T.raw, .string T.text, .int .i64 T.base, .int .i64 T.pos, .int .i64 T.en, .slice ca cn cc] 30 (0, 0)) := by rw [← hW3]; exact heap_alloc_new w2 _
      have hb23 : Below w2.heap.size w2 W3 := by rw [← hW3]; exact (Below.refl _ _).alloc (Nat.le_refl _) _
      rw [hW3]
      have hB4 : Below w1.heap.size w1 W3 := bel2 HB3.out hb23
      have HB4 := Lib.hid hB4
      have hTT := HT.out.below hB4
      obtain ⟨q0, q1, q2, q3, q4, q5, q6, da, dn, dc, q7, q8⟩ := hTT.at_ k _ HXT.out
      have hc1 : ComI W3 wr.heap.size (.slice ca cn cc) T.coms := HCI.out.frm (Frm.ofBelow hb23 []) (by simp)
      have b0 : W3.cell? ⟨w2.heap.size, 0, none⟩ = some (.string T.kind) := block_cell hblk 0
      have b1 : W3.cell? ⟨w2.heap.size, 1, none⟩ = some (.string T.space) := block_cell hblk 1
      have b2 : W3.cell? ⟨w2.heap.size, 2, none⟩ = some (.string T.raw) := block_cell hblk 2
      have b3 : W3.cell? ⟨w2.heap.size, 3, none⟩ = some (.string T.text) := block_cell hblk 3
      have b4 : W3.cell? ⟨w2.heap.size, 4, none⟩ = some (.int .i64 T.base) := block_cell hblk 4
      have b5 : W3.cell? ⟨w2.heap.size, 5, none⟩ = some (.int .i64 T.pos) := block_cell hblk 5
      have b6 : W3.cell? ⟨w2.heap.size, 6, none⟩ = some (.int .i64 T.en) := block_cell hblk 6
      have b7 : W3.cell? ⟨w2.heap.size, 7, none⟩ = some (.slice ca cn cc) := block_cell hblk 7
      have hkeep : ∀ w' : World, Below W3.heap.size W3 w' → (w'.cell? ⟨g, k * 8, none⟩ = some (.string T.kind) ∧ w'.cell? ⟨g, k * 8 + 1, none⟩ = some (.string T.space) ∧ w'.cell? ⟨g, k * 8 + 2, none⟩ = some (.string T.raw) ∧ w'.cell? ⟨g, k * 8 + 3, none⟩ = some (.string T.text) ∧ w'.cell? ⟨g, k * 8 + 4, none⟩ = some (.int .i64 T.base) ∧ w'.cell? ⟨g, k * 8 + 5, none⟩ = some (.int .i64 T.pos) ∧ w'.cell? ⟨g, k * 8 + 6, none⟩ = some (.int .i64 T.en) ∧ w'.cell? ⟨g, k * 8 + 7, none⟩ = some (.slice da dn dc) ∧ w'.cell? ⟨w2.heap.size, 0, none⟩ = some (.string T.kind) ∧ w'.cell? ⟨w2.heap.size, 1, none⟩ = some (.string T.space) ∧ w'.cell? ⟨w2.heap.size, 2, none⟩ = some (.string T.raw) ∧ w'.cell? ⟨w2.heap.size, 3, none⟩ = some (.string T.text) ∧ w'.cell? ⟨w2.heap.size, 4, none⟩ = some (.int .i64 T.base) ∧ w'.cell? ⟨w2.heap.size, 5, none⟩ = some (.int .i64 T.pos) ∧ w'.cell? ⟨w2.heap.size, 6, none⟩ = some (.int .i64 T.en) ∧ w'.cell? ⟨w2.heap.size, 7, none⟩ = some (.slice ca cn cc) ∧ Below W3.heap.size W3 w') := fun w' hb => by
        have hg1 : g < W3.heap.size := World.block_lt_of_cell? _ _ q0
        have hg2 : w2.heap.size < W3.heap.size := World.block_lt_of_cell? _ _ b0
        have k1 : ∀ i, w'.cell? ⟨g, i, none⟩ = W3.cell? ⟨g, i, none⟩ := fun i => hb.cell (p := ⟨g, i, none⟩) hg1
        have k2 : ∀ i, w'.cell? ⟨w2.heap.size, i, none⟩ = W3.cell? ⟨w2.heap.size, i, none⟩ := fun i => hb.cell (p := ⟨w2.heap.size, i, none⟩) hg2
        exact ⟨(k1 _).trans q0, (k1 _).trans q1, (k1 _).trans q2, (k1 _).trans q3, (k1 _).trans q4, (k1 _).trans q5, (k1 _).trans q6, (k1 _).trans q7, (k2 _).trans b0, (k2 _).trans b1, (k2 _).trans b2, (k2 _).trans b3, (k2 _).trans b4, (k2 _).trans b5, (k2 _).trans b6, (k2 _).trans b7, hb⟩
      have HKp := Lib.hid hkeep
      have HD := Lib.hid ((Below.refl W3.heap.size W3).drew)
      have HC1 := Lib.hid hc1
      have HC2 := Lib.hid q8
      clear hkeep hc1 q8 hTT hB4 hb23 hblk hW3 q0 q1 q2 q3 q4 q5 q6 q7 b0 b1 b2 b3 b4 b5 b6 b7
      go_region_held3 (fun w' => w'.cell? ⟨g, k * 8, none⟩ = some (.string T.kind) ∧ w'.cell? ⟨g, k * 8 + 1, none⟩ = some (.string T.space) ∧ w'.cell? ⟨g, k * 8 + 2, none⟩ = some (.string T.raw) ∧ w'.cell? ⟨g, k * 8 + 3, none⟩ = some (.string T.text) ∧ w'.cell? ⟨g, k * 8 + 4, none⟩ = some (.int .i64 T.base) ∧ w'.cell? ⟨g, k * 8 + 5, none⟩ = some (.int .i64 T.pos) ∧ w'.cell? ⟨g, k * 8 + 6, none⟩ = some (.int .i64 T.en) ∧ w'.cell? ⟨g, k * 8 + 7, none⟩ = some (.slice da dn dc) ∧ w'.cell? ⟨w2.heap.size, 0, none⟩ = some (.string T.kind) ∧ w'.cell? ⟨w2.heap.size, 1, none⟩ = some (.string T.space) ∧ w'.cell? ⟨w2.heap.size, 2, none⟩ = some (.string T.raw) ∧ w'.cell? ⟨w2.heap.size, 3, none⟩ = some (.string T.text) ∧ w'.cell? ⟨w2.heap.size, 4, none⟩ = some (.int .i64 T.base) ∧ w'.cell? ⟨w2.heap.size, 5, none⟩ = some (.int .i64 T.pos) ∧ w'.cell? ⟨w2.heap.size, 6, none⟩ = some (.int .i64 T.en) ∧ w'.cell? ⟨w2.heap.size, 7, none⟩ = some (.slice ca cn cc) ∧ Below W3.heap.size W3 w') (first | exact HKp.out _ HD.out | exact HKp.out _ (HD.out.trans (hb5.mono (Nat.le_refl _)))) ((go_at_call 19; refine (sameToken_yes T ca da cn cc dn dc wr.heap.size w.heap.size _ (HC1.out.frm (Frm.ofBelow HD.out []) (by simp)) (HC2.out.frm (Frm.ofBelow HD.out []) (by simp)) hTc).mono ?_; rintro e w5 ⟨rfl, hb5⟩))
      have HB5 := Lib.hid (HD.out.trans (hb5.mono (Nat.le_refl _)))
      obtain ⟨_, _, _, _, _, _, _, _, b0, _, _, _, _, _, b6, _, _⟩ := HKp.out _ HB5.out
      rcases HA3.out with ⟨h4, h5, h6⟩ | ⟨h4, h5⟩
      · have he1 : (T.kind.toList == [60, 101, 111, 102, 62]) = true := by rw [beq_iff_eq, toList_data, HTk.out, h4]; rfl
        have hok : (lexAll s).2.isNone = true := by rw [h5]; rfl
        have hn1 : IntKind.i64.wrap ((n : Int) - 1) = (k : Int) := by rw [IntWalk.i64_in _ (by omega)]; have := HNn.out; omega
        clear h4 h5 h6
        go_wp2_with fail
        go_ret
        exact ⟨by first | rfl | simp, bel2 (bel2 HB.out HB4.out) HB5.out⟩
      · have he1 : (T.kind.toList == [60, 101, 111, 102, 62]) = false := by
          rw [beq_eq_false_iff_ne, toList_data, HTk.out]
          exact kind_ne_list h4.2
        have HST := Lib.hid h5
        clear h4 h5
        go_wp2_with fail
        go_quiet (fail)
        go_wp2_with fail
        go_roundg (n + 1 - (k + 1))
        case measure => omega
        case rel => exact ⟨k + 1, p + t.len, t.tk.kind, dotOf dot t.tk, rfl, by go_num, by rw [HTe.out], by rw [HTk.out], rfl, by omega, HST, (bel2 HB4.out HB5.out).trans ⟨rfl, rfl, rfl, Nat.le_refl _, fun _ _ => rfl⟩⟩
    · obtain ⟨hk9, hb9⟩ := HSt.out.no ho
      obtain rfl : k = n := by rw [← HNn.out]; exact hk9
      have hb0 : (lexAll s).2.isNone = false := by rw [hb9]; rfl
      have hb1 : (((lexAll s).2.getD 0 : Nat) : Int) = ((p + off : Nat) : Int) := by rw [hb9]; rfl
      have HB3 := Lib.hid (bel2 HB2.out hb3)
      obtain ⟨q, hq⟩ : ∃ q : Int, ((p + off : Nat) : Int) = q := ⟨_, rfl⟩
      rw [hq] at hb1 ⊢
      rw [show (Value.agg zeroIT.toArray) = .agg #[.string ⟨#[]⟩, .string ⟨#[]⟩, .string ⟨#[]⟩, .string ⟨#[]⟩, .int .i64 0, .int .i64 0, .int .i64 0, .slice none 0 0] from rfl]
      clear hk9 hb9 hb3 ho hq
      go_wp2_with fail
      refine (lexes_any _ (((HC.out.below HB.out).below (HB3.out.alloc HB3.out.size _)))).mono ?_
      rintro e w5 ⟨rfl, hb5⟩
      have HB5 := Lib.hid (bel2 (bel2 HB.out (HB3.out.alloc HB3.out.size _)) hb5)
      clear hb5
      go_wp2_with fail
      go_ret
      exact ⟨rfl, HB5.out⟩

set_option maxRecDepth 10000 in
theorem steps_any (s : ByteArray) (w : World) (hs : s.size ≤ 9223372036854775807) (hc : Ctx w) : Calls Tryz.prog 7 #[.string s] w (TrueRes w) := by
  have HC := Lib.hid hc
  clear hc
  by_cases h1 : 2147483647 < s.size
  · have d1 : (2147483647 : Int) < (s.size : Int) := by omega
    go_enter Tryz.func7, Tryz.ntmps7
    go_wp2_with fail
    go_ret
    exact ⟨rfl, Below.refl _ _⟩
  · by_cases h2 : 16384 < s.size
    · have d1 : ¬ (2147483647 : Int) < (s.size : Int) := by omega
      have d2 : (16384 : Int) < (s.size : Int) := by omega
      go_enter Tryz.func7, Tryz.ntmps7
      go_wp2_with fail
      refine (lexes_any _ HC.out).mono ?_
      rintro e w3 ⟨rfl, hb3⟩
      go_wp2_with fail
      go_ret
      exact ⟨rfl, hb3⟩
    · by_cases h3 : NB s
      · exact steps_main s w (by omega) h3 HC.out
      · have d1 : ¬ (2147483647 : Int) < (s.size : Int) := by omega
        have d2 : ¬ (16384 : Int) < (s.size : Int) := by omega
        have HN := Lib.hid h3
        clear h3
        go_enter Tryz.func7, Tryz.ntmps7
        go_wp2_with (go_at_call 10; refine (brittle_yes s _ (by omega) HN.out).mono ?_; rintro e w' ⟨rfl, rfl⟩)
        refine (lexes_any _ HC.out).mono ?_
        rintro e w3 ⟨rfl, hb3⟩
        go_wp2_with fail
        go_ret
        exact ⟨rfl, hb3⟩

end Go.Proofs.YtngofbhlhcalpaaGreatDoor.lexer
