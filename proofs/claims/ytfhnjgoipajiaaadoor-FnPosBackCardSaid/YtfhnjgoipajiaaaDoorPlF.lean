/-
  Contracts of the readers of names and of integers of the language of positions. No statement of the seat is proved here.
-/
import Derived.Test.YtfhnjgoipajiaaaDoorPlE
namespace Go.Proofs.YtfhnjgoipajiaaaDoor.pl
open Go.RowKit Go.Proofs.YtfhnjgoipajiaaaDoor.gen

theorem At.below {w w' : World} {pb : Nat} {R : List Nat} {p : Nat} (h : At w pb R p) (hb : Below w.heap.size w w') : At w' pb R p := h.frm (Frm.ofBelow hb [])
theorem Env.below {w w' : World} {pb : Nat} (h : Env w pb) (hb : Below w.heap.size w w') : Env w' pb := h.frm (Frm.ofBelow hb []) (by simp)
theorem _root_.Go.Proofs.YtfhnjgoipajiaaaDoor.gen.Frm.on {a w w' : World} {S : List Nat} (h : Frm a w S) (hb : Below w.heap.size w w') : Frm a w' S := h.step ((Frm.ofBelow hb []).mono' (by simp))

/-- A name, in memory; from the block pb on. -/
def VarAt (w : World) (pb : Nat) (v : Value) (name : List Nat) : Prop := ∃ b, v = .pointer (some ⟨b, 0, none⟩) ∧ pb < b ∧ w.heap[b]? = some (.cells #[.string ⟨(enc name).toArray⟩] 52 (0, 0))

theorem VarAt.frm {w w' : World} {pb : Nat} {v : Value} {name : List Nat} (h : VarAt w pb v name) (hf : Frm w w' [pb]) : VarAt w' pb v name := by
  obtain ⟨b, h1, h2, h3⟩ := h
  exact ⟨b, h1, h2, (hf.block b (block_lt h3) (by simp; omega)).trans h3⟩

def VRes (o : Option (List Nat × List Nat)) (pb : Nat) (R : List Nat) (p : Nat) (w : World) (e : Ending) (w' : World) : Prop :=
  (∃ x v, o = some x ∧ e = .returned v ∧ VarAt w' pb v x.1 ∧ Left w' pb R x.2 ∧ Frm w w' [pb]) ∨ (o = none ∧ e = .returned (.pointer none) ∧ At w' pb R p ∧ Frm w w' [pb])

/-- From p to k there are runes of the class q alone. -/
structure Run (q : Nat → Bool) (R : List Nat) (p k : Nat) : Prop where
  le : p ≤ k
  take : (R.drop p).takeWhile q = (R.drop p).take (k - p) ++ (R.drop k).takeWhile q
  drop : (R.drop p).dropWhile q = (R.drop k).dropWhile q

theorem Run.refl (q : Nat → Bool) (R : List Nat) (p : Nat) : Run q R p p := ⟨Nat.le_refl _, by simp, rfl⟩
theorem Run.next {q : Nat → Bool} {R : List Nat} {p k : Nat} (h : Run q R p k) (hk : k < R.length) (hq : q R[k] = true) : Run q R p (k + 1) := by
  have hd := drop_cons hk
  have hle := h.le
  refine ⟨by omega, ?_, ?_⟩
  · rw [h.take, hd, List.takeWhile_cons, if_pos hq, show k + 1 - p = (k - p) + 1 from by omega, List.take_add_one]
    have e : (R.drop p)[k - p]? = some R[k] := by rw [List.getElem?_drop, show p + (k - p) = k from by omega, List.getElem?_eq_getElem hk]
    rw [e]
    simp
  · rw [h.drop, hd, List.dropWhile_cons, if_pos hq]
theorem Run.stop {q : Nat → Bool} {R : List Nat} {p k : Nat} (h : Run q R p k) (hs : hd q (R.drop k) = false) : (R.drop p).takeWhile q = (R.drop p).take (k - p) ∧ (R.drop p).dropWhile q = R.drop k := by
  obtain ⟨h1, h2⟩ := takeWhile_hd hs
  refine ⟨?_, ?_⟩
  · rw [h.take, h1, List.append_nil]
  · rw [h.drop, h2]


set_option maxRecDepth 100000 in
set_option maxHeartbeats 2000000 in
theorem consumeVar_any (pb : Nat) (R : List Nat) (p : Nat) (w : World) (h : At w pb R p) (hE : Env w pb) : Calls Tryd.prog 29 #[.pointer (some ⟨pb, 0, none⟩)] w (VRes (pvar cls (R.drop p)) pb R p w) := by
  have HA := Lib.hid h
  have HE := Lib.hid hE
  have hlen := h.len
  clear h hE
  by_cases hlt : p < R.length
  · have hd : decide (R.length ≤ p) = false := decide_eq_false (by omega)
    have hg2 := HA.out.good R[p] (List.getElem_mem hlt)
    have hdr := drop_cons hlt
    obtain ⟨c, hc⟩ : ∃ c, R[p] = c := ⟨_, rfl⟩
    have HCur : Hid (∀ W, At W pb R p → Calls Tryd.prog 16 #[.pointer (some ⟨pb, 0, none⟩)] W (Drawn (.int .i32 (c : Int)) W)) := fun W hW => by rw [← hc]; exact current_any pb R p W hW hlt
    rw [hc] at hg2 hdr
    go_enter Tryd.func29, Tryd.ntmps29
    go_wp2_with fail
    refine (eof_any pb R p _ HA.out).mono ?_
    rintro e w1 ⟨rfl, q1, rfl⟩
    rw [hd]
    go_wp2_with fail
    refine (HCur.out _ (HA.out.drewN _)).mono ?_
    rintro e w1 ⟨rfl, q2, rfl⟩
    go_wp2_with fail
    refine (isLetter_any c hg2 pb _ (HE.out.drewN _)).mono ?_
    rintro e w1 ⟨rfl, hb1⟩
    have HA1 := Lib.hid ((HA.out.drewN (q1 + q2)).below hb1)
    have HE1 := Lib.hid ((HE.out.drewN (q1 + q2)).below hb1)
    have HF1 := Lib.hid (((Frm.refl w [pb]).drewN (q1 + q2)).on hb1)
    cases hlet : cls.letter c with
    | false =>
      have HO : Hid (pvar cls (R.drop p) = none) := by
        show pvar cls (R.drop p) = none
        unfold pvar
        rw [hdr, if_neg]
        show ¬ cls.letter c = true
        rw [hlet]; simp
      clear hdr hlet hb1
      go_wp2_with fail
      go_ret
      exact .inr ⟨HO.out, rfl, HA1.out, HF1.out⟩
    | true =>
      have HL : Hid (pl.hd cls.letter (R.drop p) = true) := by
        show pl.hd cls.letter (R.drop p) = true
        rw [hdr]; exact hlet
      obtain ⟨rb1, cap1, h11, _⟩ := HA1.out.blk
      have c1 : w1.cell? ⟨pb, 1, none⟩ = some (.int .i64 (p : Int)) := block_cell h11 1
      clear hdr hlet hb1 h11 hc
      go_wp2_with fail
      go_loopg [] (R.length - p) (fun g wr => ∃ k, g = R.length - k ∧ Hid (At wr pb R k ∧ Frm w wr [pb] ∧ Env wr pb ∧ Run (idc cls) R p k))
      case atStart => exact ⟨p, rfl, HA1.out, HF1.out, HE1.out, Run.refl _ _ _⟩
      case round =>
        obtain ⟨k, hg, HK⟩ := hrel
        by_cases hlk : k < R.length
        · have hd2 : decide (R.length ≤ k) = false := decide_eq_false (by omega)
          have hg3 := HK.out.1.good R[k] (List.getElem_mem hlk)
          have hdr2 := drop_cons hlk
          have HNx := Lib.hid (fun (hq : idc cls R[k] = true) => HK.out.2.2.2.next hlk hq)
          obtain ⟨d, hdd⟩ : ∃ d, R[k] = d := ⟨_, rfl⟩
          have HCur2 : Hid (∀ W, At W pb R k → Calls Tryd.prog 16 #[.pointer (some ⟨pb, 0, none⟩)] W (Drawn (.int .i32 (d : Int)) W)) := fun W hW => by rw [← hdd]; exact current_any pb R k W hW hlk
          rw [hdd] at hg3 hdr2 HNx
          clear hdd
          go_wp2_with fail
          refine (eof_any pb R k _ HK.out.1).mono ?_
          rintro e w2 ⟨rfl, q3, rfl⟩
          rw [hd2]
          go_wp2_with fail
          refine (HCur2.out _ (HK.out.1.drewN _)).mono ?_
          rintro e w2 ⟨rfl, q4, rfl⟩
          go_wp2_with fail
          refine (isLetter_any d hg3 pb _ (HK.out.2.2.1.drewN _)).mono ?_
          rintro e w2 ⟨rfl, hb2⟩
          have HA2 := Lib.hid ((HK.out.1.drewN (q3 + q4)).below hb2)
          have HE2 := Lib.hid ((HK.out.2.2.1.drewN (q3 + q4)).below hb2)
          have HF2 := Lib.hid ((HK.out.2.1.drewN (q3 + q4)).on hb2)
          clear hb2
          cases hl2 : cls.letter d with
          | true =>
            have HN2 := Lib.hid (HNx.out (by unfold idc; rw [hl2]; rfl))
            clear hl2 hdr2
            go_wp2_with fail
            refine (next_any pb R k _ HA2.out hlk).mono ?_
            rintro e w4 ⟨rfl, ha4, hf4⟩
            have HA4 := Lib.hid ha4
            have HF4 := Lib.hid (HF2.out.step hf4)
            have HE4 := Lib.hid (HE2.out.frm hf4 (by simp))
            clear ha4 hf4
            go_wp2_with fail
            go_roundg (R.length - (k + 1))
            case measure => omega
            case rel => exact ⟨k + 1, rfl, HA4.out, HF4.out, HE4.out, HN2.out⟩
          | false =>
            by_cases h95 : d = 95
            · have HN2 := Lib.hid (HNx.out (by unfold idc; rw [h95]; simp))
              have k95 : (d : Int) = 95 := by omega
              clear hl2 hdr2 h95
              go_wp2_with fail
              refine (next_any pb R k _ HA2.out hlk).mono ?_
              rintro e w4 ⟨rfl, ha4, hf4⟩
              have HA4 := Lib.hid ha4
              have HF4 := Lib.hid (HF2.out.step hf4)
              have HE4 := Lib.hid (HE2.out.frm hf4 (by simp))
              clear ha4 hf4
              go_wp2_with fail
              go_roundg (R.length - (k + 1))
              case measure => omega
              case rel => exact ⟨k + 1, rfl, HA4.out, HF4.out, HE4.out, HN2.out⟩
            · have k95 : ((d : Int) == 95) = false := by rw [beq_eq_false_iff_ne]; omega
              go_wp2_with fail
              refine (isDigit_any d hg3 pb _ HE2.out).mono ?_
              rintro e w3 ⟨rfl, hb3⟩
              have HA3 := Lib.hid (HA2.out.below hb3)
              have HE3 := Lib.hid (HE2.out.below hb3)
              have HF3 := Lib.hid (HF2.out.on hb3)
              clear hb3
              cases hg4 : cls.digit d with
              | true =>
                have HN2 := Lib.hid (HNx.out (by unfold idc; rw [hg4]; simp))
                clear hl2 hdr2 h95 hg4
                go_wp2_with fail
                refine (next_any pb R k _ HA3.out hlk).mono ?_
                rintro e w4 ⟨rfl, ha4, hf4⟩
                have HA4 := Lib.hid ha4
                have HF4 := Lib.hid (HF3.out.step hf4)
                have HE4 := Lib.hid (HE3.out.frm hf4 (by simp))
                clear ha4 hf4
                go_wp2_with fail
                go_roundg (R.length - (k + 1))
                case measure => omega
                case rel => exact ⟨k + 1, rfl, HA4.out, HF4.out, HE4.out, HN2.out⟩
              | false =>
                have hstop : pl.hd (idc cls) (R.drop k) = false := by
                  rw [hdr2]
                  show idc cls d = false
                  unfold idc
                  rw [hl2, hg4, show (d == 95) = false from beq_eq_false_iff_ne.2 h95]; rfl
                have HRn := Lib.hid HK.out.2.2.2
                have HAk := HA3
                have HEk := HE3
                have HFk := HF3
                obtain ⟨W, hW⟩ : ∃ W, w3 = W := ⟨_, rfl⟩
                rw [hW] at HAk HEk HFk ⊢
                clear HK hl2 hdr2 h95 hg4 hW
                have hst := HRn.out.stop hstop
                have hle := HRn.out.le
                obtain ⟨rb, cap, h1, h2, h3, h4, h5⟩ := HAk.out.blk
                have hkl := HAk.out.le
                obtain ⟨n, hn⟩ : ∃ n, R.length = n := ⟨_, rfl⟩
                have c0 : W.cell? ⟨pb, 0, none⟩ = some (.slice (some ⟨rb, 0, none⟩) n cap) := by rw [← hn]; exact block_cell h1 0
                have c1 : W.cell? ⟨pb, 1, none⟩ = some (.int .i64 (k : Int)) := block_cell h1 1
                obtain ⟨pt, hpt⟩ : ∃ pt : ByteArray, (⟨(enc ((R.drop p).take (k - p))).toArray⟩ : ByteArray) = pt := ⟨_, rfl⟩
                obtain ⟨m, hm⟩ : ∃ m, k - p = m := ⟨_, rfl⟩
                have hcv : ∀ n', (convert 43 9 (.slice (some ⟨rb, p, none⟩) m (cap - p))).run Tryd.prog (W.drewN n') = .ok (.string pt) (W.drewN n') := fun n' => by
                  rw [← hpt, ← hm]; exact part_text h5 (by omega) n'
                have hP1 : Hid (pt = ⟨(enc ((R.drop p).takeWhile (idc cls))).toArray⟩) := by show pt = _; rw [← hpt, hst.1]
                have hP2 : Hid ((R.drop p).dropWhile (idc cls) = R.drop k) := hst.2
                have d2 : (0 : Int) ≤ (p : Int) := by omega
                have d3 : (p : Int) ≤ (k : Int) := by omega
                have d4 : (k : Int) ≤ (cap : Int) := by omega
                have d5 : ¬ cap = p := by omega
                have d6 : (k : Int) - (p : Int) = (m : Int) := by omega
                have d7 : k - p = m := hm
                clear hn h1 h5 hpt hst hstop hm
                go_wp2_with fail
                go_quiet (fail)
                go_wp2_with fail
                refine (skip_any pb R k _ (HAk.out.drewN _) (HEk.out.drewN _)).mono ?_
                rintro e w5 ⟨rfl, hl5, hf5⟩
                have HF5 := Lib.hid ((HFk.out.drewN _).step hf5)
                have HPB := Lib.hid (show pb < w5.heap.size from Nat.lt_of_lt_of_le HAk.out.lt hf5.size)
                obtain ⟨q5, hq5, ha5⟩ := hl5
                have HA5 := Lib.hid ha5
                have HQ5 := Lib.hid hq5
                clear hf5 hq5 ha5
                go_wp2_with fail
                go_ret
                refine .inl ⟨((R.drop p).takeWhile (idc cls), skipS cls ((R.drop p).dropWhile (idc cls))), _, by unfold pvar; rw [if_pos HL.out], rfl, ⟨w5.heap.size, rfl, HPB.out, ?_⟩, ⟨q5, by rw [HQ5.out, hP2.out], HA5.out.frm ((Frm.refl _ []).alloc _)⟩, HF5.out.alloc _⟩
                rw [heap_alloc_new, hP1.out]
        · have hd2 : decide (R.length ≤ k) = true := decide_eq_true (by omega)
          have hstop : pl.hd (idc cls) (R.drop k) = false := by rw [List.drop_eq_nil_of_le (by omega)]; rfl
          go_wp2_with fail
          refine (eof_any pb R k _ HK.out.1).mono ?_
          rintro e w2 ⟨rfl, q3, rfl⟩
          rw [hd2]
          have HRn := Lib.hid HK.out.2.2.2
          have HAk := Lib.hid (HK.out.1.drewN q3)
          have HEk := Lib.hid (HK.out.2.2.1.drewN q3)
          have HFk := Lib.hid (HK.out.2.1.drewN q3)
          obtain ⟨W, hW⟩ : ∃ W, wr.drewN q3 = W := ⟨_, rfl⟩
          rw [hW] at HAk HEk HFk ⊢
          clear HK
          have hst := HRn.out.stop hstop
          have hle := HRn.out.le
          obtain ⟨rb, cap, h1, h2, h3, h4, h5⟩ := HAk.out.blk
          have hkl := HAk.out.le
          obtain ⟨n, hn⟩ : ∃ n, R.length = n := ⟨_, rfl⟩
          have c0 : W.cell? ⟨pb, 0, none⟩ = some (.slice (some ⟨rb, 0, none⟩) n cap) := by rw [← hn]; exact block_cell h1 0
          have c1 : W.cell? ⟨pb, 1, none⟩ = some (.int .i64 (k : Int)) := block_cell h1 1
          obtain ⟨pt, hpt⟩ : ∃ pt : ByteArray, (⟨(enc ((R.drop p).take (k - p))).toArray⟩ : ByteArray) = pt := ⟨_, rfl⟩
          obtain ⟨m, hm⟩ : ∃ m, k - p = m := ⟨_, rfl⟩
          have hcv : ∀ n', (convert 43 9 (.slice (some ⟨rb, p, none⟩) m (cap - p))).run Tryd.prog (W.drewN n') = .ok (.string pt) (W.drewN n') := fun n' => by
            rw [← hpt, ← hm]; exact part_text h5 (by omega) n'
          have hP1 : Hid (pt = ⟨(enc ((R.drop p).takeWhile (idc cls))).toArray⟩) := by show pt = _; rw [← hpt, hst.1]
          have hP2 : Hid ((R.drop p).dropWhile (idc cls) = R.drop k) := hst.2
          have d2 : (0 : Int) ≤ (p : Int) := by omega
          have d3 : (p : Int) ≤ (k : Int) := by omega
          have d4 : (k : Int) ≤ (cap : Int) := by omega
          have d5 : ¬ cap = p := by omega
          have d6 : (k : Int) - (p : Int) = (m : Int) := by omega
          have d7 : k - p = m := hm
          clear hn h1 h5 hpt hst hstop hm
          go_wp2_with fail
          go_quiet (fail)
          go_wp2_with fail
          refine (skip_any pb R k _ (HAk.out.drewN _) (HEk.out.drewN _)).mono ?_
          rintro e w5 ⟨rfl, hl5, hf5⟩
          have HF5 := Lib.hid ((HFk.out.drewN _).step hf5)
          have HPB := Lib.hid (show pb < w5.heap.size from Nat.lt_of_lt_of_le HAk.out.lt hf5.size)
          obtain ⟨q5, hq5, ha5⟩ := hl5
          have HA5 := Lib.hid ha5
          have HQ5 := Lib.hid hq5
          clear hf5 hq5 ha5
          go_wp2_with fail
          go_ret
          refine .inl ⟨((R.drop p).takeWhile (idc cls), skipS cls ((R.drop p).dropWhile (idc cls))), _, by unfold pvar; rw [if_pos HL.out], rfl, ⟨w5.heap.size, rfl, HPB.out, ?_⟩, ⟨q5, by rw [HQ5.out, hP2.out], HA5.out.frm ((Frm.refl _ []).alloc _)⟩, HF5.out.alloc _⟩
          rw [heap_alloc_new, hP1.out]
  · have hd : decide (R.length ≤ p) = true := decide_eq_true (by omega)
    have HO : Hid (pvar cls (R.drop p) = none) := by
      show pvar cls (R.drop p) = none
      rw [List.drop_eq_nil_of_le (by omega)]; rfl
    go_enter Tryd.func29, Tryd.ntmps29
    go_wp2_with fail
    refine (eof_any pb R p _ HA.out).mono ?_
    rintro e w1 ⟨rfl, q1, rfl⟩
    rw [hd]
    go_wp2_with fail
    go_ret
    exact .inr ⟨HO.out, rfl, HA.out.drewN _, (Frm.refl w [pb]).drewN _⟩

end Go.Proofs.YtfhnjgoipajiaaaDoor.pl
