/-
  Contract of parseIntAtom of the language of positions. No statement of the seat is proved here.
-/
import Derived.Test.YtfhnjgoipajiaaaDoorPlG
namespace Go.Proofs.YtfhnjgoipajiaaaDoor.pl
open Go.RowKit Go.Proofs.YtfhnjgoipajiaaaDoor.gen

/-- A number, in memory. -/
def IEAt (w : World) (pb : Nat) : IE → Value → Prop
  | .int n, v => ∃ b, v = .iface 86 (.pointer (some ⟨b, 0, none⟩)) ∧ pb < b ∧ w.heap[b]? = some (.cells #[.int .i64 (n : Int)] 88 (0, 0))
  | .len s, v => ∃ b u, v = .iface 81 (.pointer (some ⟨b, 0, none⟩)) ∧ pb < b ∧ w.heap[b]? = some (.cells #[.iface 50 u] 85 (0, 0)) ∧ VarAt w pb u s
  | .ite c t e, v => ∃ b u v1 v2, v = .iface 89 (.pointer (some ⟨b, 0, none⟩)) ∧ pb < b ∧ w.heap[b]? = some (.cells #[.iface 50 u, v1, v2] 93 (0, 0)) ∧ VarAt w pb u c ∧ IEAt w pb t v1 ∧ IEAt w pb e v2

def repI (w : World) (pb : Nat) (v : Value) (i : IE) : Prop := IEAt w pb i v

theorem heap_frm {w w' : World} {pb b : Nat} {o : Obj} (hf : Frm w w' [pb]) (hb : pb < b) (h : w.heap[b]? = some o) : w'.heap[b]? = some o := (hf.block b (block_lt h) (by simp; omega)).trans h

theorem IEAt.frm {w w' : World} {pb : Nat} (hf : Frm w w' [pb]) : ∀ {i : IE} {v : Value}, IEAt w pb i v → IEAt w' pb i v := by
  intro i
  induction i with
  | int n =>
    rintro v ⟨b, h1, h2, h3⟩
    exact ⟨b, h1, h2, heap_frm hf h2 h3⟩
  | len s =>
    rintro v ⟨b, u, h1, h2, h3, h4⟩
    exact ⟨b, u, h1, h2, heap_frm hf h2 h3, h4.frm hf⟩
  | ite c t e iht ihe =>
    rintro v ⟨b, u, v1, v2, h1, h2, h3, h4, h5, h6⟩
    exact ⟨b, u, v1, v2, h1, h2, heap_frm hf h2 h3, h4.frm hf, iht h5, ihe h6⟩

theorem IEAt.iface {w : World} {pb : Nat} {i : IE} {v : Value} (h : IEAt w pb i v) : ∃ t q, v = .iface t q := by
  cases i with
  | int n => obtain ⟨b, h1, _⟩ := h; exact ⟨_, _, h1⟩
  | len s => obtain ⟨b, u, h1, _⟩ := h; exact ⟨_, _, h1⟩
  | ite c t e => obtain ⟨b, u, v1, v2, h1, _⟩ := h; exact ⟨_, _, h1⟩

theorem tk40 : Tok [40] ⟨#[40]⟩ := tok_one 40 (by decide)
theorem tk41 : Tok [41] ⟨#[41]⟩ := tok_one 41 (by decide)
theorem tk63 : Tok [63] ⟨#[63]⟩ := tok_one 63 (by decide)
theorem tk58 : Tok [58] ⟨#[58]⟩ := tok_one 58 (by decide)
theorem tk46 : Tok [46] ⟨#[46]⟩ := tok_one 46 (by decide)
theorem tk43 : Tok [43] ⟨#[43]⟩ := tok_one 43 (by decide)
theorem tk91 : Tok [91] ⟨#[91]⟩ := tok_one 91 (by decide)
theorem tk93 : Tok [93] ⟨#[93]⟩ := tok_one 93 (by decide)
theorem tk36 : Tok [36] ⟨#[36]⟩ := tok_one 36 (by decide)
theorem tkQQ : Tok [63, 63] ⟨#[63, 63]⟩ := tok_two 63 63 (by decide)
theorem tkOO : Tok [124, 124] ⟨#[124, 124]⟩ := tok_two 124 124 (by decide)

theorem enc_name {a : List Nat} {k : List Nat} {kb : List UInt8} (hk : ∀ c ∈ k, c < 128) (hkb : kb = k.map fun c => UInt8.ofNat c) (ha : ∀ r ∈ a, GR r) : ((⟨(enc a).toArray⟩ : ByteArray).toList == kb) = decide (a = k) := by
  rw [ByteArray.toList_eq, hkb, ← enc_low hk, Bool.eq_iff_iff, beq_iff_eq, decide_eq_true_eq]
  exact ⟨fun h => enc_inj ha (fun r hr => .inl (by have := hk r hr; omega)) h, fun h => by rw [h]⟩

/-- An expected sign. -/
def ERes (t : List Nat) (l : List Nat) (pb : Nat) (R : List Nat) (w : World) (e : Ending) (w' : World) : Prop :=
  (∃ l', eat cls t l = some l' ∧ e = .returned (.tuple #[]) ∧ Left w' pb R l' ∧ Frm w w' [pb]) ∨ (eat cls t l = none ∧ Bad pb w e w')

set_option maxRecDepth 100000 in
set_option maxHeartbeats 4000000 in
theorem intAtom_any (pb : Nat) (R : List Nat) : ∀ (f p : Nat) (w : World), (R.drop p).length < f → At w pb R p → Env w pb → Calls Tryd.prog 22 #[.pointer (some ⟨pb, 0, none⟩)] w (PR repI (iat cls f (R.drop p)) pb R w) := by
  intro f
  induction f with
  | zero => intro p w h; omega
  | succ f ih =>
    intro p w hlen h hE
    have HIH := Lib.hid ih
    have HA := Lib.hid h
    have HE := Lib.hid hE
    have HLn := Lib.hid hlen
    clear ih h hE hlen
    go_enter Tryd.func22, Tryd.ntmps22
    go_wp2_with fail
    refine (consume_any [40] _ tk40 pb R p _ HA.out HE.out).mono ?_
    rintro e w1 (⟨l1, ho, rfl, ⟨q1, rfl, ha1⟩, hf1⟩ | ⟨ho, rfl, ha1, hf1⟩)
    · have E1 := Lib.hid ho
      have A1 := Lib.hid ha1
      have F1 := Lib.hid hf1
      have V1 := Lib.hid (HE.out.frm hf1 (by simp))
      clear ho ha1 hf1
      go_wp2_with fail
      refine (parseVar_any pb R q1 _ A1.out V1.out).mono ?_
      rintro e w2 (⟨x2, v2, ho, rfl, ⟨b2, rfl, hb2, hc2⟩, ⟨q2, hq2, ha2⟩, hf2⟩ | ⟨ho, ⟨b2, rfl⟩, hf2⟩)
      · have E2 := Lib.hid ho
        have VA := Lib.hid (show VarAt w2 pb (.pointer (some ⟨b2, 0, none⟩)) x2.1 from ⟨b2, rfl, hb2, hc2⟩)
        have Q2 := Lib.hid hq2
        have A2 := Lib.hid ha2
        have F2 := Lib.hid (F1.out.step hf2)
        have V2 := Lib.hid (V1.out.frm hf2 (by simp))
        clear ho hb2 hc2 hq2 ha2 hf2
        go_wp2_with fail
        refine (expect_any [63] _ tk63 pb R q2 _ A2.out V2.out).mono ?_
        rintro e w3 (⟨l3, ho, rfl, ⟨q3, rfl, ha3⟩, hf3⟩ | ⟨ho, ⟨b3, rfl⟩, hf3⟩)
        · have E3 := Lib.hid ho
          have A3 := Lib.hid ha3
          have F3 := Lib.hid (F2.out.step hf3)
          have V3 := Lib.hid (V2.out.frm hf3 (by simp))
          have VA3 := Lib.hid (VA.out.frm hf3)
          have L3 : Hid ((R.drop q3).length < f) := by
            have a1 := eat_len E1.out
            have a2 := pvar_len E2.out
            have a3 := eat_len E3.out
            have a4 := HLn.out
            rw [← Q2.out] at a2
            simp only [List.length_cons, List.length_nil] at a1 a3
            show (R.drop q3).length < f
            omega
          clear ho ha3 hf3
          go_wp2_with fail
          refine (HIH.out q3 _ L3.out A3.out V3.out).mono ?_
          rintro e w4 (⟨x4, v4, ho, rfl, hr4, ⟨q4, hq4, ha4⟩, hf4⟩ | ⟨ho, ⟨b4, rfl⟩, hf4⟩)
          · obtain ⟨t4, y4, hv4⟩ := IEAt.iface hr4
            subst hv4
            have E4 := Lib.hid ho
            have R4 := Lib.hid hr4
            have Q4 := Lib.hid hq4
            have A4 := Lib.hid ha4
            have F4 := Lib.hid (F3.out.step hf4)
            have V4 := Lib.hid (V3.out.frm hf4 (by simp))
            have VA4 := Lib.hid (VA3.out.frm hf4)
            clear ho hr4 hq4 ha4 hf4
            go_wp2_with fail
            refine (expect_any [58] _ tk58 pb R q4 _ A4.out V4.out).mono ?_
            rintro e w5 (⟨l5, ho, rfl, ⟨q5, rfl, ha5⟩, hf5⟩ | ⟨ho, ⟨b5, rfl⟩, hf5⟩)
            · have E5 := Lib.hid ho
              have A5 := Lib.hid ha5
              have F5 := Lib.hid (F4.out.step hf5)
              have V5 := Lib.hid (V4.out.frm hf5 (by simp))
              have VA5 := Lib.hid (VA4.out.frm hf5)
              have R5 := Lib.hid (IEAt.frm hf5 R4.out)
              have L5 : Hid ((R.drop q5).length < f) := by
                have a1 := iat_len _ _ _ E4.out
                have a2 := eat_len E5.out
                have a4 := L3.out
                rw [← Q4.out] at a1
                simp only [List.length_cons, List.length_nil] at a2
                show (R.drop q5).length < f
                omega
              clear ho ha5 hf5
              go_wp2_with fail
              refine (HIH.out q5 _ L5.out A5.out V5.out).mono ?_
              rintro e w6 (⟨x6, v6, ho, rfl, hr6, ⟨q6, hq6, ha6⟩, hf6⟩ | ⟨ho, ⟨b6, rfl⟩, hf6⟩)
              · obtain ⟨t6, y6, hv6⟩ := IEAt.iface hr6
                subst hv6
                have E6 := Lib.hid ho
                have R6 := Lib.hid hr6
                have Q6 := Lib.hid hq6
                have A6 := Lib.hid ha6
                have F6 := Lib.hid (F5.out.step hf6)
                have V6 := Lib.hid (V5.out.frm hf6 (by simp))
                have VA6 := Lib.hid (VA5.out.frm hf6)
                have S6 := Lib.hid (IEAt.frm hf6 R5.out)
                clear ho hr6 hq6 ha6 hf6
                go_wp2_with fail
                refine (expect_any [41] _ tk41 pb R q6 _ A6.out V6.out).mono ?_
                rintro e w7 (⟨l7, ho, rfl, ⟨q7, rfl, ha7⟩, hf7⟩ | ⟨ho, ⟨b7, rfl⟩, hf7⟩)
                · have E7 := Lib.hid ho
                  have A7 := Lib.hid ha7
                  have F7 := Lib.hid (F6.out.step hf7)
                  have VA7 := Lib.hid (VA6.out.frm hf7)
                  have R7 := Lib.hid (IEAt.frm hf7 R6.out)
                  have S7 := Lib.hid (IEAt.frm hf7 S6.out)
                  clear ho ha7 hf7
                  have HO : Hid (iat cls (f + 1) (R.drop p) = some (.ite x2.1 x4.1 x6.1, R.drop q7)) := by
                    show iat cls (f + 1) (R.drop p) = _
                    rw [iat]
                    simp only [E1.out, E2.out, Option.bind_some, ← Q2.out, E3.out, E4.out, ← Q4.out, E5.out, E6.out, ← Q6.out, E7.out]
                  go_wp2_with fail
                  go_ret
                  have hA : ∀ o, Frm w7 (w7.alloc o) [pb] := fun o => (Frm.refl _ _).alloc o
                  refine .inl ⟨_, _, HO.out, rfl, ⟨w7.heap.size, _, _, _, rfl, A7.out.lt, heap_alloc_new w7 _, VA7.out.frm (hA _), IEAt.frm (hA _) S7.out, IEAt.frm (hA _) R7.out⟩, ⟨q7, rfl, A7.out.frm ((Frm.refl _ []).alloc _)⟩, F7.out.alloc _⟩
                · go_wp2_with fail
                  exact ⟨rfl, .inr ⟨by rw [iat]; simp only [E1.out, E2.out, Option.bind_some, ← Q2.out, E3.out, E4.out, ← Q4.out, E5.out, E6.out, ← Q6.out, ho, Option.bind_none], ⟨_, rfl⟩, F6.out.step hf7⟩⟩
              · go_wp2_with fail
                exact ⟨rfl, .inr ⟨by rw [iat]; simp only [E1.out, E2.out, Option.bind_some, ← Q2.out, E3.out, E4.out, ← Q4.out, E5.out, ho, Option.bind_none], ⟨_, rfl⟩, F5.out.step hf6⟩⟩
            · go_wp2_with fail
              exact ⟨rfl, .inr ⟨by rw [iat]; simp only [E1.out, E2.out, Option.bind_some, ← Q2.out, E3.out, E4.out, ← Q4.out, ho, Option.bind_none], ⟨_, rfl⟩, F4.out.step hf5⟩⟩
          · go_wp2_with fail
            exact ⟨rfl, .inr ⟨by rw [iat]; simp only [E1.out, E2.out, Option.bind_some, ← Q2.out, E3.out, ho, Option.bind_none], ⟨_, rfl⟩, F3.out.step hf4⟩⟩
        · go_wp2_with fail
          exact ⟨rfl, .inr ⟨by rw [iat]; simp only [E1.out, E2.out, Option.bind_some, ← Q2.out, ho, Option.bind_none], ⟨_, rfl⟩, F2.out.step hf3⟩⟩
      · go_wp2_with fail
        exact ⟨rfl, .inr ⟨by rw [iat]; simp only [E1.out, ho, Option.bind_none], ⟨_, rfl⟩, F1.out.step hf2⟩⟩
    · have E1 := Lib.hid ho
      have A1 := Lib.hid ha1
      have F1 := Lib.hid hf1
      have V1 := Lib.hid (HE.out.frm hf1 (by simp))
      clear ho ha1 hf1
      go_wp2_with fail
      refine (consumeInt_any pb R p _ A1.out V1.out).mono ?_
      rintro e w2 (⟨hd0, rfl, ha2, hf2⟩ | ⟨hd1, ⟨x2, v2, ho, rfl, ⟨b2, rfl, hb2, hc2⟩, ⟨q2, hq2, ha2⟩, hf2⟩ | ⟨ho, ⟨b2, rfl⟩, hf2⟩⟩)
      · have D0 := Lib.hid hd0
        have A2 := Lib.hid ha2
        have F2 := Lib.hid (F1.out.step hf2)
        have V2 := Lib.hid (V1.out.frm hf2 (by simp))
        clear hd0 ha2 hf2
        go_wp2_with fail
        refine (consumeVar_any pb R p _ A2.out V2.out).mono ?_
        rintro e w3 (⟨x3, v3, ho, rfl, ⟨b3, rfl, hb3, hc3⟩, ⟨q3, hq3, ha3⟩, hf3⟩ | ⟨ho, rfl, ha3, hf3⟩)
        · have E3 := Lib.hid ho
          have Q3 := Lib.hid hq3
          have A3 := Lib.hid ha3
          have F3 := Lib.hid (F2.out.step hf3)
          have V3 := Lib.hid (V2.out.frm hf3 (by simp))
          have c3 : w3.cell? ⟨b3, 0, none⟩ = some (.string ⟨(enc x3.1).toArray⟩) := block_cell hc3 0
          have hgx : ∀ r ∈ x3.1, GR r := by
            obtain ⟨_, hx⟩ := pvar_some E3.out
            rw [hx]
            exact fun r hr => HA.out.good r (List.mem_of_mem_drop ((List.takeWhile_sublist _).subset hr))
          have hcmp := enc_name (k := kLen) (kb := [108, 101, 110]) (by decide) rfl hgx
          obtain ⟨pt, hpt⟩ : ∃ pt : ByteArray, (⟨(enc x3.1).toArray⟩ : ByteArray) = pt := ⟨_, rfl⟩
          rw [hpt] at c3 hcmp
          clear ho hb3 hc3 hq3 ha3 hf3 hgx hpt
          by_cases hk : x3.1 = kLen
          · rw [decide_eq_true hk] at hcmp
            have HK := Lib.hid hk
            clear hk
            go_wp2_with fail
            refine (expect_any [40] _ tk40 pb R q3 _ A3.out V3.out).mono ?_
            rintro e w4 (⟨l4, ho, rfl, ⟨q4, rfl, ha4⟩, hf4⟩ | ⟨ho, ⟨b4, rfl⟩, hf4⟩)
            · have E4 := Lib.hid ho
              have A4 := Lib.hid ha4
              have F4 := Lib.hid (F3.out.step hf4)
              have V4 := Lib.hid (V3.out.frm hf4 (by simp))
              clear ho ha4 hf4
              go_wp2_with fail
              refine (parseVar_any pb R q4 _ A4.out V4.out).mono ?_
              rintro e w5 (⟨x5, v5, ho, rfl, ⟨b5, rfl, hb5, hc5⟩, ⟨q5, hq5, ha5⟩, hf5⟩ | ⟨ho, ⟨b5, rfl⟩, hf5⟩)
              · have E5 := Lib.hid ho
                have VA := Lib.hid (show VarAt w5 pb (.pointer (some ⟨b5, 0, none⟩)) x5.1 from ⟨b5, rfl, hb5, hc5⟩)
                have Q5 := Lib.hid hq5
                have A5 := Lib.hid ha5
                have F5 := Lib.hid (F4.out.step hf5)
                have V5 := Lib.hid (V4.out.frm hf5 (by simp))
                clear ho hb5 hc5 hq5 ha5 hf5
                go_wp2_with fail
                refine (expect_any [41] _ tk41 pb R q5 _ A5.out V5.out).mono ?_
                rintro e w6 (⟨l6, ho, rfl, ⟨q6, rfl, ha6⟩, hf6⟩ | ⟨ho, ⟨b6, rfl⟩, hf6⟩)
                · have E6 := Lib.hid ho
                  have A6 := Lib.hid ha6
                  have F6 := Lib.hid (F5.out.step hf6)
                  have VA6 := Lib.hid (VA.out.frm hf6)
                  clear ho ha6 hf6
                  have HO : Hid (iat cls (f + 1) (R.drop p) = some (.len x5.1, R.drop q6)) := by
                    show iat cls (f + 1) (R.drop p) = _
                    rw [iat]
                    simp only [E1.out, D0.out, Bool.false_eq_true, if_false, E3.out, Option.bind_some, HK.out, if_true, ← Q3.out, E4.out, E5.out, ← Q5.out, E6.out]
                  go_wp2_with fail
                  go_ret
                  have hA : ∀ o, Frm w6 (w6.alloc o) [pb] := fun o => (Frm.refl _ _).alloc o
                  refine .inl ⟨_, _, HO.out, rfl, ⟨w6.heap.size, _, rfl, A6.out.lt, heap_alloc_new w6 _, VA6.out.frm (hA _)⟩, ⟨q6, rfl, A6.out.frm ((Frm.refl _ []).alloc _)⟩, F6.out.alloc _⟩
                · go_wp2_with fail
                  exact ⟨rfl, .inr ⟨by rw [iat]; simp only [E1.out, D0.out, Bool.false_eq_true, if_false, E3.out, Option.bind_some, HK.out, if_true, ← Q3.out, E4.out, E5.out, ← Q5.out, ho, Option.bind_none], ⟨_, rfl⟩, F5.out.step hf6⟩⟩
              · go_wp2_with fail
                exact ⟨rfl, .inr ⟨by rw [iat]; simp only [E1.out, D0.out, Bool.false_eq_true, if_false, E3.out, Option.bind_some, HK.out, if_true, ← Q3.out, E4.out, ho, Option.bind_none], ⟨_, rfl⟩, F4.out.step hf5⟩⟩
            · go_wp2_with fail
              exact ⟨rfl, .inr ⟨by rw [iat]; simp only [E1.out, D0.out, Bool.false_eq_true, if_false, E3.out, Option.bind_some, HK.out, if_true, ← Q3.out, ho, Option.bind_none], ⟨_, rfl⟩, F3.out.step hf4⟩⟩
          · rw [decide_eq_false hk] at hcmp
            have HK := Lib.hid hk
            clear hk
            go_wp2_with fail
            refine (errNew_any _ _).mono ?_
            rintro e w4 ⟨rfl, hb4⟩
            have F4 := Lib.hid (F3.out.on hb4)
            clear hb4
            unfold errV
            go_wp2_with fail
            exact ⟨rfl, .inr ⟨by rw [iat]; simp only [E1.out, D0.out, Bool.false_eq_true, if_false, E3.out, Option.bind_some, HK.out], ⟨_, rfl⟩, F4.out⟩⟩
        · have E3 := Lib.hid ho
          have F3 := Lib.hid (F2.out.step hf3)
          clear ho ha3 hf3
          go_wp2_with fail
          refine (errNew_any _ _).mono ?_
          rintro e w4 ⟨rfl, hb4⟩
          have F4 := Lib.hid (F3.out.on hb4)
          clear hb4
          unfold errV
          go_wp2_with fail
          exact ⟨rfl, .inr ⟨by rw [iat]; simp only [E1.out, D0.out, Bool.false_eq_true, if_false, E3.out, Option.bind_none], ⟨_, rfl⟩, F4.out⟩⟩
      · obtain ⟨n, hn, hx⟩ := Option.map_eq_some_iff.1 ho
        subst hx
        have D1 := Lib.hid hd1
        have N1 := Lib.hid hn
        have B2 := Lib.hid hb2
        have C2 := Lib.hid hc2
        have Q2 := Lib.hid hq2
        have A2 := Lib.hid ha2
        have F2 := Lib.hid (F1.out.step hf2)
        clear ho hd1 hn hb2 hc2 hq2 ha2 hf2
        go_wp2_with fail
        go_ret
        exact .inl ⟨(IE.int n, skipS cls ((R.drop p).dropWhile cls.digit)), _, by rw [iat]; simp only [E1.out, D1.out, if_true, N1.out, Option.bind_some], rfl, ⟨b2, rfl, B2.out, C2.out⟩, ⟨q2, Q2.out, A2.out⟩, F2.out⟩
      · have hn := Option.map_eq_none_iff.1 ho
        go_wp2_with fail
        exact ⟨rfl, .inr ⟨by rw [iat]; simp only [E1.out, hd1, if_true, hn, Option.bind_none], ⟨_, rfl⟩, F1.out.step hf2⟩⟩

end Go.Proofs.YtfhnjgoipajiaaaDoor.pl
