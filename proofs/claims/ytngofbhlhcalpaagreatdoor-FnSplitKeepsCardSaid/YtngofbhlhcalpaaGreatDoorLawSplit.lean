/-
  Contract of laws.FnSplitKeeps. No statement of the seat is proved here.
-/
import Derived.Deep.QuietTactic
import Derived.BigQuiet
import Derived.Test.YtngofbhlhcalpaaGreatDoorZ38
namespace Go.Proofs.YtngofbhlhcalpaaGreatDoor.lexer
open Go.RowKit Go.Proofs.YtngofbhlhcalpaaGreatDoor.gen

set_option maxRecDepth 100000 in
set_option maxHeartbeats 4000000 in
theorem split_main (s : ByteArray) (w : World) (hs : s.size ≤ 16384) (hN : NB s) (hc : Ctx w) : Calls Tryz.prog 8 #[.string s] w (TrueRes w) := by
  have hel := lexAll_elem s
  have HC := Lib.hid hc
  have HN := Lib.hid hN
  have d1 : decide ((2147483647 : Int) < (s.size : Int)) = false := by simp; omega
  have d2 : decide ((16384 : Int) < (s.size : Int)) = false := by simp; omega
  clear hc hN
  cases hf : (lexAll s).2 with
  | some o =>
    have HF := Lib.hid hf
    clear hf hel
    go_enter Tryz.func8, Tryz.ntmps8
    go_wp2_with (go_at_call 10; refine (brittle_no s _ (by omega) HN.out).mono ?_; rintro e w' ⟨rfl, rfl⟩)
    refine (lexed_any s _ (by omega) HN.out HC.out).mono ?_
    rintro e w1 ⟨v, rfl, hT, hb⟩
    rw [HF.out]
    have HC1 := Lib.hid (HC.out.below hb)
    have HB1 := Lib.hid hb
    clear hT hb
    go_wp2_with fail
    refine (splitF_any s _ (by omega) (by rw [HF.out]; rfl) HN.out HC1.out).mono ?_
    rintro e w2 ⟨v2, rfl, hb2⟩
    have HC2 := Lib.hid (HC1.out.below hb2)
    have HB2 := Lib.hid (bel2 HB1.out hb2)
    clear hb2
    go_wp2_with (go_at_call 11; refine (lexes_any _ HC2.out).mono ?_; rintro e w3 ⟨rfl, hb3⟩)
    go_ret
    exact ⟨rfl, bel2 HB2.out hb3⟩
  | none =>
    have hfa := cuts_facts s.data.toList hf
    obtain ⟨hF, h0⟩ := hfa
    obtain ⟨L, hL⟩ : ∃ L, lexAll s = L := ⟨_, rfl⟩
    obtain ⟨R, hR⟩ : ∃ R, orOne (cuts 0 L.1) = R := ⟨_, rfl⟩
    obtain ⟨A, hA⟩ : ∃ A, semis L.1 = A := ⟨_, rfl⟩
    change Facts _ 0 (orOne (cuts 0 (lexAll s).1)) (semis (lexAll s).1) at hF
    change 0 < (orOne (cuts 0 (lexAll s).1)).length at h0
    rw [hL] at hF h0 hel hf
    rw [hR] at hF h0
    rw [hA] at hF
    have hAl : A.length ≤ 16385 := by
      have h1 := semis_len L.1
      rw [hA] at h1
      have := hel.2.2.2
      omega
    obtain ⟨hn1, hn2⟩ := hF.num
    have hLl : L.1.length ≤ 16385 := by have := hel.2.2.2; omega
    have hL0 : 0 < L.1.length := hel.2.2.1 hf
    have HFa := Lib.hid hF
    have HL := Lib.hid hL
    have HR := Lib.hid hR
    have HA := Lib.hid hA
    have HFl := Lib.hid hf
    clear hF hel hL hR hA hf
    go_enter Tryz.func8, Tryz.ntmps8
    go_wp2_with (go_at_call 10; refine (brittle_no s _ (by omega) HN.out).mono ?_; rintro e w' ⟨rfl, rfl⟩)
    refine (lexed_any s _ (by omega) HN.out HC.out).mono ?_
    rintro e w1 ⟨v, rfl, hT, hb⟩
    rw [HL.out] at hT
    rw [HL.out, HFl.out]
    have HC1 := Lib.hid (HC.out.below hb)
    have HB1 := Lib.hid hb
    obtain ⟨n1, hn1'⟩ : ∃ n1, L.1.length = n1 := ⟨_, rfl⟩
    obtain ⟨gt, capt, rfl⟩ : ∃ g cap, v = .slice (some ⟨g, 0, none⟩) n1 cap := by
      rcases hT.shape with ⟨_, h3⟩ | ⟨g, cap, hv, _⟩
      · have h9 : L.1 = [] := List.map_eq_nil_iff.1 h3
        rw [h9] at hL0; simp at hL0
      · exact ⟨g, cap, by rw [hv, List.length_map, hn1']⟩
    have HT := Lib.hid hT
    have HN1 := Lib.hid hn1'
    clear hT hb hn1'
    go_wp2_with fail
    refine (splitd_any s _ (by omega) (fun _ => by rw [HL.out, HR.out]; exact ⟨by omega, h0⟩) HN.out HC1.out).mono ?_
    rintro e w2 (⟨hq, v2, rfl, hP, hb2⟩ | ⟨hq, v2, rfl, hb2⟩)
    case inr => rw [HL.out, HFl.out] at hq; cases hq
    case inl =>
      rw [HL.out, HR.out] at hP
      obtain ⟨n, hnn⟩ : ∃ n, R.length = n := ⟨_, rfl⟩
      obtain ⟨gr, capr, rfl⟩ : ∃ g cap, v2 = .slice (some ⟨g, 0, none⟩) n cap := by
        rcases hP.2 with ⟨_, h9⟩ | ⟨g', cap', cur, h1, _⟩
        · omega
        · exact ⟨g', cap', by rw [h1, hnn]⟩
      have HP := Lib.hid hP
      have HB2 := Lib.hid (bel2 HB1.out hb2)
      have HT2 := Lib.hid (HT.out.below hb2)
      have HC2 := Lib.hid (HC1.out.below hb2)
      rw [hnn] at hn1 hn2 h0
      have HNn := Lib.hid hnn
      clear hP hb2 hnn
      go_wp2_with fail
      refine (semicolons_any s L.1 _ gt capt n1 _ HN1.out.symm (by have := HN1.out; omega) HT2.out).mono ?_
      rintro e w3 ⟨va, rfl, hO, hb3⟩
      rw [HA.out] at hO
      obtain ⟨m, hm⟩ : ∃ m, A.length = m := ⟨_, rfl⟩
      rw [hm] at hn1 hn2 hAl
      have HM := Lib.hid hm
      have HB3 := Lib.hid (bel2 HB2.out hb3)
      have HP3 := Lib.hid (show RawsAt s w3 w1.heap.size (.slice (some ⟨gr, 0, none⟩) n capr) R from ownsRow_frm HP.out (Frm.ofBelow hb3 []) (by simp))
      have HO := Lib.hid hO
      clear hO hb3 hm
      obtain ⟨ao, capa, rfl⟩ : ∃ ao capa, va = .slice ao m capa := by
        rcases HO.out with ⟨h1, h2⟩ | ⟨g, cap, h1, _⟩
        · have h3 := congrArg List.length h2
          rw [ints_len, HM.out] at h3
          exact ⟨none, 0, by rw [h1]; simp at h3; rw [h3]⟩
        · exact ⟨_, cap, by rw [h1, ints_len, HM.out]⟩
      have HSh : Hid (∀ (j a : Nat), A[j]? = some a → ∃ g, ao = some ⟨g, 0, none⟩ ∧ w3.cell? ⟨g, j, none⟩ = some (.int .i64 (a : Int)) ∧ j < m) := by
        intro j a hj
        have hjm : j < A.length := by
          rcases Nat.lt_or_ge j A.length with h' | h'
          · exact h'
          · rw [List.getElem?_eq_none h'] at hj; cases hj
        rcases HO.out with ⟨h1, h2⟩ | ⟨g, cap, h1, _, _, _, _, h6, _⟩
        · have h3 := congrArg List.length h2
          rw [ints_len] at h3
          simp at h3
          rw [h3] at hjm; simp at hjm
        · refine ⟨g, by injection h1, ?_, by have := HM.out; omega⟩
          rw [h6 j (by rw [ints_len]; exact hjm)]
          unfold ints
          rw [List.getElem?_map, hj]; rfl
      have e1 : ¬ (n : Int) < (m : Int) := by omega
      have e1n : decide (n < m) = false := by simp; omega
      have e2 : IntKind.i64.wrap ((m : Int) + 1) = (m : Int) + 1 := IntWalk.i64_in _ (by omega)
      have e3 : decide ((m : Int) + 1 < (n : Int)) = false := by simp; omega
      have e4 : ((n : Int) == 0) = false := by rw [beq_eq_false_iff_ne]; omega
      go_wp2_with fail
      go_loopg [9, 71] n (fun g' v i wr => ∃ k e : Nat, g' = n - k ∧ i = .int .i64 k ∧ v = .int .i64 e ∧ k ≤ n ∧ Hid (endAt R k = e) ∧ Hid (Below w3.heap.size w3 wr))
      case atStart => exact ⟨0, 0, rfl, rfl, rfl, Nat.zero_le _, rfl, Below.refl _ _⟩
      case round =>
        obtain ⟨k, e, hg, rfl, rfl, hkn, HE, HW⟩ := hrel
        by_cases hlt : k < n
        · obtain ⟨r, hr⟩ : ∃ r, R[k]? = some r := ⟨_, List.getElem?_eq_getElem (by have := HNn.out; omega)⟩
          obtain ⟨f1, f2, f3, f4⟩ := facts_at HFa.out k r hr
          rw [HE.out] at f4
          obtain ⟨q0, q1, q2, q3⟩ := (show RawsAt s wr w1.heap.size (.slice (some ⟨gr, 0, none⟩) n capr) R from ownsRow_frm HP3.out (Frm.ofBelow HW.out []) (by simp)).at_ k r hr
          obtain ⟨r1, hr1⟩ : ∃ r1, r.1 = r1 := ⟨_, rfl⟩
          obtain ⟨r2, hr2⟩ : ∃ r2, r.2 = r2 := ⟨_, rfl⟩
          rw [hr1, hr2] at q2
          rw [hr1] at q0 f1 f4
          rw [hr2] at q1 f1 f2 f3
          have HE1 := Lib.hid f3
          have hi1 : (0 : Int) ≤ (k : Int) := by omega
          have hi2 : (k : Int) < (n : Int) := by omega
          have hkw : IntKind.i64.wrap ((k : Int) + 1) = (k : Int) + 1 := IntWalk.i64_in _ (by omega)
          have hge : e ≤ r1 := by
            rcases f4 with ⟨h1, h2⟩ | ⟨j, _, _, h2, _⟩
            · subst h1
              have : endAt R 0 = 0 := rfl
              rw [← HE.out, this]; omega
            · omega
          have g1 : decide ((r1 : Int) < (e : Int)) = false := by simp; omega
          have g2 : decide ((r2 : Int) < (r1 : Int)) = false := by simp; omega
          have g3 : decide ((s.size : Int) < (r2 : Int)) = false := by simp; omega
          have g4 : (0 : Int) ≤ (r1 : Int) := by omega
          have g5 : (r1 : Int) ≤ (r2 : Int) := by omega
          have g6 : (r2 : Int) ≤ (s.size : Int) := by omega
          have g7 : (0 : Int) ≤ (e : Int) := by omega
          have g8 : (e : Int) ≤ (r1 : Int) := by omega
          have g9 : (r1 : Int) ≤ (s.size : Int) := by omega
          have n1 : r1 ≤ s.size := by omega
          have hX : ∀ nq, Below wr.heap.size wr ((wr.alloc (.cells #[.int .i64 (r1 : Int), .int .i64 (r2 : Int), .string (s.extract r1 r2)] 43)).drewN nq) := fun nq => (((Frm.refl wr []).alloc _).drewN nq).below
          have hXs : ∀ nq, ((wr.alloc (.cells #[.int .i64 (r1 : Int), .int .i64 (r2 : Int), .string (s.extract r1 r2)] 43)).drewN nq).heap.size = wr.heap.size + 1 := fun nq => by show (wr.heap.push _).size = _; rw [Array.size_push]
          have hXb : ∀ nq, ((wr.alloc (.cells #[.int .i64 (r1 : Int), .int .i64 (r2 : Int), .string (s.extract r1 r2)] 43)).drewN nq).heap[wr.heap.size]? = some (.cells #[.int .i64 (r1 : Int), .int .i64 (r2 : Int), .string (s.extract r1 r2)] 43 (0, 0)) := fun nq => heap_alloc_new wr _
          have HX := Lib.hid hX
          have HXs := Lib.hid hXs
          have HXb := Lib.hid hXb
          clear hr f3 hr1 hr2 hX hXs hXb
          rcases f4 with ⟨hk0, hr0⟩ | ⟨j, hj, hA, hlt2, hBl⟩
          · have hk1 : ¬ (0 : Int) < (k : Int) := by omega
            have HBk : Hid (spc (s.extract e r1).data.toList = (s.extract e r1).size) := by
              show spc _ = _
              obtain rfl : e = r1 := by omega
              exact blanks_none s e n1
            clear hk0 hr0
            go_upto_region 16 with fail
            go_quiet (fail)
            go_wp2_with fail
            refine (blank_any _ _ HBk.out).mono ?_
            rintro _ w5 ⟨rfl, hb5⟩
            have y1 : w5.cell? ⟨wr.heap.size, 1, none⟩ = some (.int .i64 (r2 : Int)) := (hb5.cell (by rw [HXs.out]; exact Nat.lt_succ_self _)).trans (block_cell (HXb.out nq) 1)
            have HW5 := Lib.hid (bel2 (bel2 HW.out (HX.out nq)) hb5)
            clear hb5
            go_wp2_with fail
            go_roundg (n - (k + 1))
            case measure => omega
            case rel => exact ⟨k + 1, r2, rfl, by go_num, rfl, by omega, HE1, HW5⟩
          · obtain ⟨ga, rfl, hca, hjm⟩ := HSh.out j e hA
            have hk1 : (0 : Int) < (k : Int) := by omega
            have s1 : (k : Int) - 1 = (j : Int) := by omega
            have s2 : IntKind.i64.wrap (j : Int) = (j : Int) := IntWalk.i64_in _ (by omega)
            have s3 : (j : Int) < (m : Int) := by omega
            have s4 : (0 : Int) ≤ (j : Int) := by omega
            have s5 : decide ((r1 : Int) ≤ (e : Int)) = false := by simp; omega
            have s5n : decide (r1 ≤ e) = false := by simp; omega
            have s5m : decide (e < e) = false := by simp
            have s6 : (e : Int) ≤ (s.size : Int) := by omega
            have s7 : IntKind.i64.wrap ((e : Int) + 1) = (e : Int) + 1 := IntWalk.i64_in _ (by omega)
            have s8 : (0 : Int) ≤ (e : Int) + 1 := by omega
            have s9 : (e : Int) + 1 ≤ (r1 : Int) := by omega
            have s10 : ((e : Int) + 1).toNat = e + 1 := by omega
            have hca' : wr.cell? ⟨ga, j, none⟩ = some (.int .i64 (e : Int)) := (HW.out.cell (World.block_lt_of_cell? _ _ hca)).trans hca
            have HBe := Lib.hid (blanks_none s e (by omega))
            have HBk := Lib.hid (blanks_ext hBl n1)
            have hgl := World.block_lt_of_cell? _ _ hca'
            have hgl : ga < wr.heap.size := hgl
            have hkp : ∀ nq w', Below ((wr.alloc (.cells #[.int .i64 (r1 : Int), .int .i64 (r2 : Int), .string (s.extract r1 r2)] 43)).drewN nq).heap.size ((wr.alloc (.cells #[.int .i64 (r1 : Int), .int .i64 (r2 : Int), .string (s.extract r1 r2)] 43)).drewN nq) w' → w'.cell? ⟨ga, j, none⟩ = some (.int .i64 (e : Int)) ∧ w'.cell? ⟨wr.heap.size, 0, none⟩ = some (.int .i64 (r1 : Int)) ∧ w'.cell? ⟨wr.heap.size, 1, none⟩ = some (.int .i64 (r2 : Int)) := fun nq w' hb => by
              have hz := HXs.out nq
              have e0 := hb.cell (p := ⟨ga, j, none⟩) (by rw [hz]; show ga < _; omega)
              have e1 := hb.cell (p := ⟨wr.heap.size, 0, none⟩) (by rw [hz]; exact Nat.lt_succ_self _)
              have e2 := hb.cell (p := ⟨wr.heap.size, 1, none⟩) (by rw [hz]; exact Nat.lt_succ_self _)
              refine ⟨e0.trans ?_, e1.trans (block_cell (HXb.out nq) 0), e2.trans (block_cell (HXb.out nq) 1)⟩
              exact ((HX.out nq).cell (p := ⟨ga, j, none⟩) hgl).trans hca'
            have HKp := Lib.hid hkp
            clear hA hBl hca hca' hkp hgl hj
            go_upto_region 16 with fail
            go_quiet (fail)
            go_upto_region 20 with fail
            have HKq := Lib.hid (HKp.out nq)
            have HXq := Lib.hid (bel2 HW.out (HX.out nq))
            generalize (wr.alloc (.cells #[.int .i64 (r1 : Int), .int .i64 (r2 : Int), .string (s.extract r1 r2)] 43)).drewN nq = X at HKq HXq ⊢
            have HD := Lib.hid ((Below.refl X.heap.size X).drew)
            clear HKp HX HXs HXb
            go_region_held3 (fun w' => w'.cell? ⟨ga, j, none⟩ = some (.int .i64 (e : Int)) ∧ w'.cell? ⟨wr.heap.size, 0, none⟩ = some (.int .i64 (r1 : Int)) ∧ w'.cell? ⟨wr.heap.size, 1, none⟩ = some (.int .i64 (r2 : Int))) (first | exact HKq.out _ HD.out | exact HKq.out _ (HD.out.trans (hb5.mono (Nat.le_refl _)))) ((go_at_call 23; refine (blank_any _ _ (by first | exact HBe.out | exact spc_nil)).mono ?_; rintro _ w5 ⟨rfl, hb5⟩))
            have hb5' := HD.out.trans (hb5.mono (Nat.le_refl _))
            obtain ⟨y0, y2, y1⟩ := HKq.out _ hb5'
            have HW5 := Lib.hid (bel2 HXq.out hb5')
            clear hb5 hb5' HD
            go_wp2_with fail
            go_quiet (fail)
            go_wp2_with fail
            refine (blank_any _ _ HBk.out).mono ?_
            rintro _ w6 ⟨rfl, hb6⟩
            have y3 : w6.cell? ⟨wr.heap.size, 1, none⟩ = some (.int .i64 (r2 : Int)) := (hb6.cell (World.block_lt_of_cell? _ _ y1)).trans y1
            have HW6 := Lib.hid (bel2 HW5.out (((Frm.refl w5 []).drewN nq).below.trans hb6))
            clear hb6 y0 y1 y2
            go_wp2_with fail
            go_roundg (n - (k + 1))
            case measure => omega
            case rel => exact ⟨k + 1, r2, rfl, by go_num, rfl, by omega, HE1, HW6⟩
        · obtain rfl : k = n := by omega
          obtain ⟨hle, hcase⟩ := facts_end HFa.out (by have := HNn.out; omega)
          rw [HNn.out, HE.out, HM.out] at hcase
          rw [HNn.out, HE.out] at hle
          have g1 : (0 : Int) ≤ (e : Int) := by omega
          have g2 : (e : Int) ≤ (s.size : Int) := by omega
          rcases hcase with ⟨k1, k2, k3, k4⟩ | ⟨k1, k2⟩
          · obtain ⟨j, hj⟩ : ∃ j, m - 1 = j := ⟨_, rfl⟩
            rw [hj] at k2
            obtain ⟨ga, rfl, hca, hjm⟩ := HSh.out j e k2
            have s0 : ((k : Int) == (m : Int)) = true := by rw [beq_iff_eq]; omega
            have s0n : (k : Int) = (m : Int) := by omega
            have s1 : (m : Int) - 1 = (j : Int) := by omega
            have s2 : IntKind.i64.wrap (j : Int) = (j : Int) := IntWalk.i64_in _ (by omega)
            have s3 : (j : Int) < (m : Int) := by omega
            have s4 : (0 : Int) ≤ (j : Int) := by omega
            have s5m : decide (e < e) = false := by simp
            have s7 : IntKind.i64.wrap ((e : Int) + 1) = (e : Int) + 1 := IntWalk.i64_in _ (by omega)
            have s8 : (0 : Int) ≤ (e : Int) + 1 := by omega
            have s9 : (e : Int) + 1 ≤ (s.size : Int) := by omega
            have s10 : ((e : Int) + 1).toNat = e + 1 := by omega
            have hca' : wr.cell? ⟨ga, j, none⟩ = some (.int .i64 (e : Int)) := (HW.out.cell (World.block_lt_of_cell? _ _ hca)).trans hca
            have HBe := Lib.hid (blanks_none s e hle)
            have HBk := Lib.hid (blanks_ext k4 (Nat.le_refl _))
            have hkp : ∀ w', Below wr.heap.size wr w' → w'.cell? ⟨ga, j, none⟩ = some (.int .i64 (e : Int)) := fun w' hb => (hb.cell (World.block_lt_of_cell? _ _ hca')).trans hca'
            have HKq := Lib.hid hkp
            clear k1 k2 k4 hkp hca hj hle
            go_wp2_with (go_at_call 23; refine (blank_any _ _ (by first | with_reducible exact HBe.out | exact spc_nil)).mono ?_; rintro _ w5 ⟨rfl, hb5⟩; have y0 := HKq.out _ hb5)
            refine (blank_any _ _ HBk.out).mono ?_
            rintro _ w6 ⟨rfl, hb6⟩
            have HW6 := Lib.hid (bel2 HB3.out (bel2 HW.out (hb5.trans (hb6.mono hb5.size))))
            clear hb6
            go_wp2_with fail
            go_ret
            exact ⟨rfl, HW6.out⟩
          · have s0 : ((k : Int) == (m : Int)) = false := by rw [beq_eq_false_iff_ne]; omega
            have HBk : Hid (spc (s.extract e s.size).data.toList = (s.extract e s.size).size) := by
              show spc _ = _
              have := blanks_none s e hle
              rw [← k2]; exact this
            clear k1 k2 hle
            go_wp2_with fail
            refine (blank_any _ _ HBk.out).mono ?_
            rintro _ w6 ⟨rfl, hb6⟩
            have HW6 := Lib.hid (bel2 HB3.out (bel2 HW.out hb6))
            clear hb6
            go_wp2_with fail
            go_ret
            exact ⟨rfl, HW6.out⟩

set_option maxRecDepth 10000 in
theorem split_any (s : ByteArray) (w : World) (hs : s.size ≤ 9223372036854775807) (hc : Ctx w) : Calls Tryz.prog 8 #[.string s] w (TrueRes w) := by
  have HC := Lib.hid hc
  clear hc
  by_cases h1 : 2147483647 < s.size
  · have d1 : (2147483647 : Int) < (s.size : Int) := by omega
    go_enter Tryz.func8, Tryz.ntmps8
    go_wp2_with fail
    go_ret
    exact ⟨rfl, Below.refl _ _⟩
  · by_cases h2 : 16384 < s.size
    · have d1 : ¬ (2147483647 : Int) < (s.size : Int) := by omega
      have d2 : (16384 : Int) < (s.size : Int) := by omega
      go_enter Tryz.func8, Tryz.ntmps8
      go_wp2_with fail
      refine (lexes_any _ HC.out).mono ?_
      rintro e w3 ⟨rfl, hb3⟩
      go_wp2_with fail
      go_ret
      exact ⟨rfl, hb3⟩
    · by_cases h3 : NB s
      · exact split_main s w (by omega) h3 HC.out
      · have d1 : ¬ (2147483647 : Int) < (s.size : Int) := by omega
        have d2 : ¬ (16384 : Int) < (s.size : Int) := by omega
        have HN := Lib.hid h3
        clear h3
        go_enter Tryz.func8, Tryz.ntmps8
        go_wp2_with (go_at_call 10; refine (brittle_yes s _ (by omega) HN.out).mono ?_; rintro e w' ⟨rfl, rfl⟩)
        refine (lexes_any _ HC.out).mono ?_
        rintro e w3 ⟨rfl, hb3⟩
        go_wp2_with fail
        go_ret
        exact ⟨rfl, hb3⟩

end Go.Proofs.YtngofbhlhcalpaaGreatDoor.lexer
