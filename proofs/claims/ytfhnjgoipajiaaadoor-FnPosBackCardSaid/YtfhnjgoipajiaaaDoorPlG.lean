/-
  Contracts of parseVar and consumeIntLiteral of the language of positions. No statement of the seat is proved here.
-/
import Derived.Test.YtfhnjgoipajiaaaDoorPlF
import Derived.Lib.AtoiErrMem
namespace Go.Proofs.YtfhnjgoipajiaaaDoor.pl
open Go.RowKit Go.Proofs.YtfhnjgoipajiaaaDoor.gen

/-- What a reader that may panic gives. -/
def PR {α : Type} (rep : World → Nat → Value → α → Prop) (o : Option (α × List Nat)) (pb : Nat) (R : List Nat) (w : World) (e : Ending) (w' : World) : Prop :=
  (∃ x v, o = some x ∧ e = .returned v ∧ rep w' pb v x.1 ∧ Left w' pb R x.2 ∧ Frm w w' [pb]) ∨ (o = none ∧ Bad pb w e w')

theorem Bad.from {pb : Nat} {w w1 w' : World} {e : Ending} (hf : Frm w w1 [pb]) (h : Bad pb w1 e w') : Bad pb w e w' := ⟨h.1, hf.step h.2⟩

theorem parseVar_any (pb : Nat) (R : List Nat) (p : Nat) (w : World) (h : At w pb R p) (hE : Env w pb) : Calls Tryd.prog 26 #[.pointer (some ⟨pb, 0, none⟩)] w (PR VarAt (pvar cls (R.drop p)) pb R w) := by
  have HA := Lib.hid h
  have HE := Lib.hid hE
  clear h hE
  go_enter Tryd.func26, Tryd.ntmps26
  go_wp2_with fail
  refine (consumeVar_any pb R p _ HA.out HE.out).mono ?_
  rintro e w1 (⟨x, v, ho, rfl, ⟨b, rfl, hb1, hb2⟩, hl, hf⟩ | ⟨ho, rfl, ha, hf⟩)
  · have HO := Lib.hid ho
    have HB1 := Lib.hid hb1
    have HB2 := Lib.hid hb2
    have HL := Lib.hid hl
    have HF := Lib.hid hf
    clear ho hb1 hb2 hl hf
    go_wp2_with fail
    go_ret
    exact .inl ⟨x, _, HO.out, rfl, ⟨b, rfl, HB1.out, HB2.out⟩, HL.out, HF.out⟩
  · have HO := Lib.hid ho
    have HF := Lib.hid hf
    clear ho ha hf
    go_wp2_with fail
    refine (errNew_any _ _).mono ?_
    rintro e w2 ⟨rfl, hb2⟩
    have HF2 := Lib.hid (HF.out.on hb2)
    clear hb2
    unfold errV
    go_wp2_with fail
    exact ⟨rfl, .inr ⟨HO.out, ⟨_, rfl⟩, HF2.out⟩⟩

/-- An integer, in memory. -/
def IntAt (w : World) (pb : Nat) (v : Value) (n : Nat) : Prop := ∃ b, v = .pointer (some ⟨b, 0, none⟩) ∧ pb < b ∧ w.heap[b]? = some (.cells #[.int .i64 (n : Int)] 88 (0, 0))

def IRes (l : List Nat) (pb : Nat) (R : List Nat) (p : Nat) (w : World) (e : Ending) (w' : World) : Prop :=
  (pl.hd cls.digit l = false ∧ e = .returned (.pointer none) ∧ At w' pb R p ∧ Frm w w' [pb]) ∨
  (pl.hd cls.digit l = true ∧ PR IntAt ((atoi (l.takeWhile cls.digit)).map fun n => (n, skipS cls (l.dropWhile cls.digit))) pb R w e w')

/-- How strconv.Atoi ends at digits. -/
theorem atoi_any (d : List Nat) (hd : pl.hd cls.digit d = true) (hg : ∀ r ∈ d, GR r) (hl : d.length ≤ 2147483647) (pb : Nat) (w : World) (hE : Env w pb) :
    Calls Tryd.prog 32 #[.string ⟨(enc d).toArray⟩] w fun e w' => ((∃ n, atoi d = some n ∧ e = .returned (.tuple #[.int .i64 (n : Int), .nilIface])) ∨ (atoi d = none ∧ ∃ v t q, e = .returned (.tuple #[.int .i64 v, .iface t q]))) ∧ Below w.heap.size w w' := by
  have hsz : (⟨(enc d).toArray⟩ : ByteArray).size ≤ 8589934588 := by
    show (enc d).toArray.size ≤ _
    rw [List.size_toArray]
    have : ∀ l : List Nat, (∀ r ∈ l, GR r) → (enc l).length ≤ 4 * l.length := by
      intro l
      induction l with
      | nil => intro _; exact Nat.le_refl _
      | cons r l ih =>
        intro h
        have h1 := (encU_len (h r (List.mem_cons_self ..))).2
        have h2 := ih (fun x hx => h x (List.mem_cons_of_mem _ hx))
        have e : enc (r :: l) = encU r ++ enc l := rfl
        rw [e, List.length_append, List.length_cons]
        omega
    have := this d hg
    omega
  have hC := hE.ctx
  cases hr : Lib.atoiAll (enc d) with
  | ok v =>
    have hv : 0 ≤ v := by
      cases d with
      | nil => cases hd
      | cons c r =>
        have hc : cls.digit c = true := hd
        have hgc := hg c (List.mem_cons_self ..)
        have hx : ∃ x t, enc (c :: r) = x :: t ∧ x.toNat ≠ 45 := by
          have e : enc (c :: r) = encU c ++ enc r := rfl
          rw [e]
          rcases encU_cases hgc with ⟨k1, k⟩ | ⟨k1, k2, k⟩ | ⟨k1, k2, k⟩ | ⟨k1, k⟩
          · rw [k]
            refine ⟨_, _, rfl, ?_⟩
            rw [(cls_ok.low c k1).2.1] at hc
            simp only [Bool.and_eq_true, decide_eq_true_eq] at hc
            rw [u8n]; omega
          · rw [k]; exact ⟨_, _, rfl, by rw [u8n]; omega⟩
          · rw [k]; exact ⟨_, _, rfl, by rw [u8n]; omega⟩
          · rw [k]
            refine ⟨_, _, rfl, ?_⟩
            have := GR_le hgc
            rw [u8n]; omega
        obtain ⟨x, t, hx, hne⟩ := hx
        rw [hx] at hr
        unfold Lib.atoiAll at hr
        simp only [hne, or_false, false_and, not_false_eq_true, true_and, if_false] at hr
        split at hr
        · cases hr
        · cases hr
        · split at hr
          · cases hr
          · injection hr with hr
            omega
    refine (Tryd.strconv_Atoi_ok ⟨(enc d).toArray⟩ (by omega) v hr w).mono ?_
    rintro e w' ⟨rfl, hw⟩
    have ha : atoi d = some v.toNat := by unfold atoi; rw [hr]
    refine ⟨.inl ⟨v.toNat, ha, by rw [Int.toNat_of_nonneg hv]⟩, ?_⟩
    rcases hw with rfl | ⟨t, rfl⟩
    · exact Below.refl _ _
    · exact Lib.bytesWorld_below _ _ _
  | range =>
    obtain ⟨tp, q, hvar⟩ := hC.rng
    refine (Tryd.strconv_Atoi_range_var ⟨(enc d).toArray⟩ (by omega) hr tp q w hvar).mono ?_
    rintro e w' ⟨N, rfl, _, _, hb⟩
    exact ⟨.inr ⟨by unfold atoi; rw [hr], _, _, _, rfl⟩, hb⟩
  | _ =>
    obtain ⟨tp, q, hvar⟩ := hC.syn
    refine (Tryd.strconv_Atoi_syntax_var ⟨(enc d).toArray⟩ (by omega) hr tp q w hvar).mono ?_
    rintro e w' ⟨N, rfl, _, _, hb⟩
    exact ⟨.inr ⟨by unfold atoi; rw [hr], _, _, _, rfl⟩, hb⟩


set_option maxRecDepth 100000 in
set_option maxHeartbeats 2000000 in
theorem consumeInt_any (pb : Nat) (R : List Nat) (p : Nat) (w : World) (h : At w pb R p) (hE : Env w pb) : Calls Tryd.prog 28 #[.pointer (some ⟨pb, 0, none⟩)] w (IRes (R.drop p) pb R p w) := by
  have HA := Lib.hid h
  have HE := Lib.hid hE
  have hlen := h.len
  clear h hE
  by_cases hlt : p < R.length
  · have hd : decide (R.length ≤ p) = false := decide_eq_false (by omega)
    have hg2 := HA.out.good R[p] (List.getElem_mem hlt)
    have hdr := drop_cons hlt
    obtain ⟨c, hc⟩ : ∃ c, R[p] = c := ⟨_, rfl⟩
    have HCur : Hid (∀ W, At W pb R p → Calls Tryd.prog 16 #[.pointer (some ⟨pb, 0, none⟩)] W (Drawn (.int .i32 (c : Int)) W)) := fun W hW => by rw [← hc]; exact current_any pb R p W hW hlt
    rw [hc] at hg2 hdr
    go_enter Tryd.func28, Tryd.ntmps28
    go_wp2_with fail
    refine (eof_any pb R p _ HA.out).mono ?_
    rintro e w1 ⟨rfl, q1, rfl⟩
    rw [hd]
    go_wp2_with fail
    refine (HCur.out _ (HA.out.drewN _)).mono ?_
    rintro e w1 ⟨rfl, q2, rfl⟩
    go_wp2_with fail
    refine (isDigit_any c hg2 pb _ (HE.out.drewN _)).mono ?_
    rintro e w1 ⟨rfl, hb1⟩
    have HA1 := Lib.hid ((HA.out.drewN (q1 + q2)).below hb1)
    have HE1 := Lib.hid ((HE.out.drewN (q1 + q2)).below hb1)
    have HF1 := Lib.hid (((Frm.refl w [pb]).drewN (q1 + q2)).on hb1)
    cases hlet : cls.digit c with
    | false =>
      have HO : Hid (pl.hd cls.digit (R.drop p) = false) := by
        show pl.hd cls.digit (R.drop p) = false
        rw [hdr]
        exact hlet
      clear hdr hlet hb1
      go_wp2_with fail
      go_ret
      exact .inl ⟨HO.out, rfl, HA1.out, HF1.out⟩
    | true =>
      have HL : Hid (pl.hd cls.digit (R.drop p) = true) := by
        show pl.hd cls.digit (R.drop p) = true
        rw [hdr]; exact hlet
      obtain ⟨rb1, cap1, h11, _⟩ := HA1.out.blk
      have c1 : w1.cell? ⟨pb, 1, none⟩ = some (.int .i64 (p : Int)) := block_cell h11 1
      clear hdr hlet hb1 h11 hc
      go_wp2_with fail
      go_loopg [] (R.length - p) (fun g wr => ∃ k, g = R.length - k ∧ Hid (At wr pb R k ∧ Frm w wr [pb] ∧ Env wr pb ∧ Run cls.digit R p k))
      case atStart => exact ⟨p, rfl, HA1.out, HF1.out, HE1.out, Run.refl _ _ _⟩
      case round =>
        obtain ⟨k, hg, HK⟩ := hrel
        by_cases hlk : k < R.length
        · have hd2 : decide (R.length ≤ k) = false := decide_eq_false (by omega)
          have hg3 := HK.out.1.good R[k] (List.getElem_mem hlk)
          have hdr2 := drop_cons hlk
          have HNx := Lib.hid (fun (hq : cls.digit R[k] = true) => HK.out.2.2.2.next hlk hq)
          obtain ⟨d, hdd⟩ : ∃ d, R[k] = d := ⟨_, rfl⟩
          have HCur2 : Hid (∀ W, At W pb R k → Calls Tryd.prog 16 #[.pointer (some ⟨pb, 0, none⟩)] W (Drawn (.int .i32 (d : Int)) W)) := fun W hW => by rw [← hdd]; exact current_any pb R k W hW hlk
          rw [hdd] at hg3 hdr2 HNx
          clear hdd
          go_wp2_with fail
          refine (eof_any pb R k _ HK.out.1).mono ?_
          rintro e w2 ⟨rfl, q3, rfl⟩
          rw [hd2]
          go_wp2_with fail
          refine (HCur2.out _ (HK.out.1.drewN _)).mono ?_
          rintro e w2 ⟨rfl, q4, rfl⟩
          go_wp2_with fail
          refine (isDigit_any d hg3 pb _ (HK.out.2.2.1.drewN _)).mono ?_
          rintro e w2 ⟨rfl, hb2⟩
          have HA2 := Lib.hid ((HK.out.1.drewN (q3 + q4)).below hb2)
          have HE2 := Lib.hid ((HK.out.2.2.1.drewN (q3 + q4)).below hb2)
          have HF2 := Lib.hid ((HK.out.2.1.drewN (q3 + q4)).on hb2)
          clear hb2
          cases hl2 : cls.digit d with
          | true =>
            have HN2 := Lib.hid (HNx.out hl2)
            clear hl2 hdr2
            go_wp2_with fail
            refine (next_any pb R k _ HA2.out hlk).mono ?_
            rintro e w4 ⟨rfl, ha4, hf4⟩
            have HA4 := Lib.hid ha4
            have HF4 := Lib.hid (HF2.out.step hf4)
            have HE4 := Lib.hid (HE2.out.frm hf4 (by simp))
            clear ha4 hf4
            go_wp2_with fail
            go_roundg (R.length - (k + 1))
            case measure => omega
            case rel => exact ⟨k + 1, rfl, HA4.out, HF4.out, HE4.out, HN2.out⟩
          | false =>
            have hstop : pl.hd cls.digit (R.drop k) = false := by
              rw [hdr2]
              exact hl2
            have HRn := Lib.hid HK.out.2.2.2
            have HAk := HA2
            have HEk := HE2
            have HFk := HF2
            obtain ⟨W, hW⟩ : ∃ W, w2 = W := ⟨_, rfl⟩
            rw [hW] at HAk HEk HFk ⊢
            clear HK hl2 hdr2 hW
            have hne : Hid (pl.hd cls.digit ((R.drop p).takeWhile cls.digit) = true) := by
              show pl.hd cls.digit ((R.drop p).takeWhile cls.digit) = true
              cases hh : R.drop p with
              | nil => have h9 := HL.out; rw [hh] at h9; cases h9
              | cons a b =>
                have h9 := HL.out
                rw [hh] at h9
                have h9 : cls.digit a = true := h9
                rw [List.takeWhile_cons, if_pos h9]
                exact h9
            have hst := HRn.out.stop hstop
            have hle := HRn.out.le
            obtain ⟨rb, cap, h1, h2, h3, h4, h5⟩ := HAk.out.blk
            have hkl := HAk.out.le
            obtain ⟨n, hn⟩ : ∃ n, R.length = n := ⟨_, rfl⟩
            have c0 : W.cell? ⟨pb, 0, none⟩ = some (.slice (some ⟨rb, 0, none⟩) n cap) := by rw [← hn]; exact block_cell h1 0
            have c1 : W.cell? ⟨pb, 1, none⟩ = some (.int .i64 (k : Int)) := block_cell h1 1
            obtain ⟨pt, hpt⟩ : ∃ pt : ByteArray, (⟨(enc ((R.drop p).take (k - p))).toArray⟩ : ByteArray) = pt := ⟨_, rfl⟩
            obtain ⟨m, hm⟩ : ∃ m, k - p = m := ⟨_, rfl⟩
            have hcv : ∀ n', (convert 43 9 (.slice (some ⟨rb, p, none⟩) m (cap - p))).run Tryd.prog (W.drewN n') = .ok (.string pt) (W.drewN n') := fun n' => by
              rw [← hpt, ← hm]; exact part_text h5 (by omega) n'
            have hP1 : Hid (pt = ⟨(enc ((R.drop p).takeWhile cls.digit)).toArray⟩) := by show pt = _; rw [← hpt, hst.1]
            have hP2 : Hid ((R.drop p).dropWhile cls.digit = R.drop k) := hst.2
            have d2 : (0 : Int) ≤ (p : Int) := by omega
            have d3 : (p : Int) ≤ (k : Int) := by omega
            have d4 : (k : Int) ≤ (cap : Int) := by omega
            have d5 : ¬ cap = p := by omega
            have d6 : (k : Int) - (p : Int) = (m : Int) := by omega
            have d7 : k - p = m := hm
            clear hn h1 h5 hpt hst hstop hm
            have HGd : Hid (∀ r ∈ (R.drop p).takeWhile cls.digit, GR r) := fun r hr => HAk.out.good r (List.mem_of_mem_drop ((List.takeWhile_sublist _).subset hr))
            have HLn : Hid (((R.drop p).takeWhile cls.digit).length ≤ 2147483647) := by
              show ((R.drop p).takeWhile cls.digit).length ≤ _
              have h1 := (List.takeWhile_sublist (p := cls.digit) (l := R.drop p)).length_le
              rw [List.length_drop] at h1
              have h2 := HAk.out.len
              omega
            go_wp2_with fail
            go_quiet (fail)
            go_wp2_with fail
            rw [hP1.out]
            refine (atoi_any _ hne.out HGd.out HLn.out pb _ (HEk.out.drewN _)).mono ?_
            rintro e w6 ⟨⟨N, ha6, rfl⟩ | ⟨ha6, vv, tt, qq, rfl⟩, hb6⟩
            · have HO6 := Lib.hid ha6
              have HA6 := Lib.hid ((HAk.out.drewN _).below hb6)
              have HE6 := Lib.hid ((HEk.out.drewN _).below hb6)
              have HF6 := Lib.hid ((HFk.out.drewN _).on hb6)
              clear ha6 hb6
              go_wp2_with fail
              refine (skip_any pb R k _ HA6.out HE6.out).mono ?_
              rintro e w5 ⟨rfl, hl5, hf5⟩
              have HF5 := Lib.hid (HF6.out.step hf5)
              have HPB := Lib.hid (show pb < w5.heap.size from Nat.lt_of_lt_of_le HA6.out.lt hf5.size)
              obtain ⟨q5, hq5, ha5⟩ := hl5
              have HA5 := Lib.hid ha5
              have HQ5 := Lib.hid hq5
              clear hf5 hq5 ha5
              go_wp2_with fail
              go_ret
              refine .inr ⟨HL.out, .inl ⟨(N, skipS cls ((R.drop p).dropWhile cls.digit)), _, by rw [HO6.out]; rfl, rfl, ⟨w5.heap.size, rfl, HPB.out, ?_⟩, ⟨q5, by rw [HQ5.out, hP2.out], HA5.out.frm ((Frm.refl _ []).alloc _)⟩, HF5.out.alloc _⟩⟩
              rw [heap_alloc_new]
            · have HO6 := Lib.hid ha6
              have HF6 := Lib.hid ((HFk.out.drewN _).on hb6)
              clear ha6 hb6
              go_wp2_with fail
              refine (errNew_any _ _).mono ?_
              rintro e w8 ⟨rfl, hb8⟩
              have HF8 := Lib.hid (HF6.out.on hb8)
              clear hb8
              unfold errV
              go_wp2_with fail
              exact ⟨rfl, .inr ⟨HL.out, .inr ⟨by rw [HO6.out]; rfl, ⟨_, rfl⟩, HF8.out⟩⟩⟩
        · have hd2 : decide (R.length ≤ k) = true := decide_eq_true (by omega)
          have hstop : pl.hd cls.digit (R.drop k) = false := by rw [List.drop_eq_nil_of_le (by omega)]; rfl
          go_wp2_with fail
          refine (eof_any pb R k _ HK.out.1).mono ?_
          rintro e w2 ⟨rfl, q3, rfl⟩
          rw [hd2]
          have HRn := Lib.hid HK.out.2.2.2
          have HAk := Lib.hid (HK.out.1.drewN q3)
          have HEk := Lib.hid (HK.out.2.2.1.drewN q3)
          have HFk := Lib.hid (HK.out.2.1.drewN q3)
          obtain ⟨W, hW⟩ : ∃ W, wr.drewN q3 = W := ⟨_, rfl⟩
          rw [hW] at HAk HEk HFk ⊢
          clear HK
          have hne : Hid (pl.hd cls.digit ((R.drop p).takeWhile cls.digit) = true) := by
            show pl.hd cls.digit ((R.drop p).takeWhile cls.digit) = true
            cases hh : R.drop p with
            | nil => have h9 := HL.out; rw [hh] at h9; cases h9
            | cons a b =>
              have h9 := HL.out
              rw [hh] at h9
              have h9 : cls.digit a = true := h9
              rw [List.takeWhile_cons, if_pos h9]
              exact h9
          have hst := HRn.out.stop hstop
          have hle := HRn.out.le
          obtain ⟨rb, cap, h1, h2, h3, h4, h5⟩ := HAk.out.blk
          have hkl := HAk.out.le
          obtain ⟨n, hn⟩ : ∃ n, R.length = n := ⟨_, rfl⟩
          have c0 : W.cell? ⟨pb, 0, none⟩ = some (.slice (some ⟨rb, 0, none⟩) n cap) := by rw [← hn]; exact block_cell h1 0
          have c1 : W.cell? ⟨pb, 1, none⟩ = some (.int .i64 (k : Int)) := block_cell h1 1
          obtain ⟨pt, hpt⟩ : ∃ pt : ByteArray, (⟨(enc ((R.drop p).take (k - p))).toArray⟩ : ByteArray) = pt := ⟨_, rfl⟩
          obtain ⟨m, hm⟩ : ∃ m, k - p = m := ⟨_, rfl⟩
          have hcv : ∀ n', (convert 43 9 (.slice (some ⟨rb, p, none⟩) m (cap - p))).run Tryd.prog (W.drewN n') = .ok (.string pt) (W.drewN n') := fun n' => by
            rw [← hpt, ← hm]; exact part_text h5 (by omega) n'
          have hP1 : Hid (pt = ⟨(enc ((R.drop p).takeWhile cls.digit)).toArray⟩) := by show pt = _; rw [← hpt, hst.1]
          have hP2 : Hid ((R.drop p).dropWhile cls.digit = R.drop k) := hst.2
          have d2 : (0 : Int) ≤ (p : Int) := by omega
          have d3 : (p : Int) ≤ (k : Int) := by omega
          have d4 : (k : Int) ≤ (cap : Int) := by omega
          have d5 : ¬ cap = p := by omega
          have d6 : (k : Int) - (p : Int) = (m : Int) := by omega
          have d7 : k - p = m := hm
          clear hn h1 h5 hpt hst hstop hm
          have HGd : Hid (∀ r ∈ (R.drop p).takeWhile cls.digit, GR r) := fun r hr => HAk.out.good r (List.mem_of_mem_drop ((List.takeWhile_sublist _).subset hr))
          have HLn : Hid (((R.drop p).takeWhile cls.digit).length ≤ 2147483647) := by
            show ((R.drop p).takeWhile cls.digit).length ≤ _
            have h1 := (List.takeWhile_sublist (p := cls.digit) (l := R.drop p)).length_le
            rw [List.length_drop] at h1
            have h2 := HAk.out.len
            omega
          go_wp2_with fail
          go_quiet (fail)
          go_wp2_with fail
          rw [hP1.out]
          refine (atoi_any _ hne.out HGd.out HLn.out pb _ (HEk.out.drewN _)).mono ?_
          rintro e w6 ⟨⟨N, ha6, rfl⟩ | ⟨ha6, vv, tt, qq, rfl⟩, hb6⟩
          · have HO6 := Lib.hid ha6
            have HA6 := Lib.hid ((HAk.out.drewN _).below hb6)
            have HE6 := Lib.hid ((HEk.out.drewN _).below hb6)
            have HF6 := Lib.hid ((HFk.out.drewN _).on hb6)
            clear ha6 hb6
            go_wp2_with fail
            refine (skip_any pb R k _ HA6.out HE6.out).mono ?_
            rintro e w5 ⟨rfl, hl5, hf5⟩
            have HF5 := Lib.hid (HF6.out.step hf5)
            have HPB := Lib.hid (show pb < w5.heap.size from Nat.lt_of_lt_of_le HA6.out.lt hf5.size)
            obtain ⟨q5, hq5, ha5⟩ := hl5
            have HA5 := Lib.hid ha5
            have HQ5 := Lib.hid hq5
            clear hf5 hq5 ha5
            go_wp2_with fail
            go_ret
            refine .inr ⟨HL.out, .inl ⟨(N, skipS cls ((R.drop p).dropWhile cls.digit)), _, by rw [HO6.out]; rfl, rfl, ⟨w5.heap.size, rfl, HPB.out, ?_⟩, ⟨q5, by rw [HQ5.out, hP2.out], HA5.out.frm ((Frm.refl _ []).alloc _)⟩, HF5.out.alloc _⟩⟩
            rw [heap_alloc_new]
          · have HO6 := Lib.hid ha6
            have HF6 := Lib.hid ((HFk.out.drewN _).on hb6)
            clear ha6 hb6
            go_wp2_with fail
            refine (errNew_any _ _).mono ?_
            rintro e w8 ⟨rfl, hb8⟩
            have HF8 := Lib.hid (HF6.out.on hb8)
            clear hb8
            unfold errV
            go_wp2_with fail
            exact ⟨rfl, .inr ⟨HL.out, .inr ⟨by rw [HO6.out]; rfl, ⟨_, rfl⟩, HF8.out⟩⟩⟩
  · have hd : decide (R.length ≤ p) = true := decide_eq_true (by omega)
    have HO : Hid (pl.hd cls.digit (R.drop p) = false) := by
      show pl.hd cls.digit (R.drop p) = false
      rw [List.drop_eq_nil_of_le (by omega)]; rfl
    go_enter Tryd.func28, Tryd.ntmps28
    go_wp2_with fail
    refine (eof_any pb R p _ HA.out).mono ?_
    rintro e w1 ⟨rfl, q1, rfl⟩
    rw [hd]
    go_wp2_with fail
    go_ret
    exact .inl ⟨HO.out, rfl, HA.out.drewN _, (Frm.refl w [pb]).drewN _⟩

end Go.Proofs.YtfhnjgoipajiaaaDoor.pl
