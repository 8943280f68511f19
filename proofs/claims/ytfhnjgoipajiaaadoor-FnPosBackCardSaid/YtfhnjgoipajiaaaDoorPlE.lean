/-
  Contracts of consume and expect of the language of positions; of errors.New. No statement of the seat is proved here.
-/
import Derived.Test.YtfhnjgoipajiaaaDoorPlD
namespace Go.Proofs.YtfhnjgoipajiaaaDoor.pl
open Go.RowKit Go.Proofs.YtfhnjgoipajiaaaDoor.gen

theorem enc_inj {a b : List Nat} (ha : ∀ r ∈ a, GR r) (hb : ∀ r ∈ b, GR r) (h : enc a = enc b) : a = b := by
  have h1 := runesU_enc a (enc a).length ha (Nat.le_refl _)
  have h2 := runesU_enc b (enc a).length hb (by rw [h]; exact Nat.le_refl _)
  rw [← h1, ← h2, h]

/-- A sign of the language, as a text. -/
structure Tok (t : List Nat) (tb : ByteArray) : Prop where
  low : ∀ c ∈ t, c < 128
  eq : tb = ⟨(enc t).toArray⟩
  pos : 0 < t.length ∧ t.length ≤ 2

theorem Tok.size {t : List Nat} {tb : ByteArray} (h : Tok t tb) : tb.size = t.length := by
  rw [h.eq, enc_low h.low]
  show (List.map _ t).toArray.size = _
  simp

theorem tok_one (c : Nat) (h : c < 128) : Tok [c] ⟨#[UInt8.ofNat c]⟩ := by
  have h1 : ∀ d ∈ [c], d < 128 := by simpa using h
  exact ⟨h1, by rw [enc_low h1]; rfl, by simp⟩
theorem tok_two (c d : Nat) (h : c < 128 ∧ d < 128) : Tok [c, d] ⟨#[UInt8.ofNat c, UInt8.ofNat d]⟩ := by
  have h1 : ∀ x ∈ [c, d], x < 128 := by simpa using h
  exact ⟨h1, by rw [enc_low h1]; rfl, by simp⟩

theorem _root_.Go.Proofs.YtfhnjgoipajiaaaDoor.gen.Frm.mono' {w w' : World} {S T : List Nat} (h : Frm w w' S) (hs : ∀ x, x ∈ S → x ∈ T) : Frm w w' T := ⟨h.os, h.tape, h.output, h.size, fun k hk hn => h.block k hk (fun hm => hn (hs k hm))⟩

def ConsRes (o : Option (List Nat)) (pb : Nat) (R : List Nat) (p : Nat) (w : World) (e : Ending) (w' : World) : Prop :=
  (∃ l, o = some l ∧ e = .returned (.bool true) ∧ Left w' pb R l ∧ Frm w w' [pb]) ∨ (o = none ∧ e = .returned (.bool false) ∧ At w' pb R p ∧ Frm w w' [pb])

/-- 'string(source[p:p+m])'. -/
theorem part_text {w : World} {rb c m p : Nat} {R : List Nat} (hc : ∀ j, (hj : j < R.length) → w.cell? ⟨rb, j, none⟩ = some (.int .i32 ((R[j]'hj : Nat) : Int))) (hm : p + m ≤ R.length) (n : Nat) :
    (convert 43 9 (.slice (some ⟨rb, p, none⟩) m c)).run Tryd.prog (w.drewN n) = .ok (.string ⟨(enc ((R.drop p).take m)).toArray⟩) (w.drewN n) := by
  have h := run_convert_runes (P := Tryd.prog) (w.drewN n) 43 9 21 ⟨rb, p, none⟩ m c ((R.drop p).map fun (r : Nat) => (r : Int)) (by rw [List.length_map, List.length_drop]; omega) Tryd.underlying43 Tryd.underlying21 Tryd.underlying9 ?_
  · rw [h, ← List.map_take, runesBytes_eq]
  · intro j hj
    rw [List.length_map, List.length_drop] at hj
    have hadd : (⟨rb, p, none⟩ : Addr).add j = ⟨rb, p + j, none⟩ := by unfold Addr.add; split <;> simp_all
    rw [hadd]
    have h2 := hc (p + j) (by omega)
    have e : ((R.drop p).map fun (r : Nat) => (r : Int)).getD j 0 = ((R[p + j]'(by omega) : Nat) : Int) := by
      simp [List.getD, List.getElem?_eq_getElem (show p + j < R.length by omega)]
    rw [e]
    exact h2

set_option maxRecDepth 100000 in
set_option maxHeartbeats 1000000 in
theorem consume_any (t : List Nat) (tb : ByteArray) (ht : Tok t tb) (pb : Nat) (R : List Nat) (p : Nat) (w : World) (h : At w pb R p) (hE : Env w pb) :
    Calls Tryd.prog 19 #[.pointer (some ⟨pb, 0, none⟩), .string tb] w (ConsRes (eat cls t (R.drop p)) pb R p w) := by
  have HA := Lib.hid h
  have HE := Lib.hid hE
  obtain ⟨rb, cap, h1, h2, h3, h4, h5⟩ := h.blk
  have hl := h.len
  have hp := h.le
  have hpos := ht.pos
  have hz := ht.size
  obtain ⟨m, hm⟩ : ∃ m, tb.size = m := ⟨_, rfl⟩
  obtain ⟨n, hn⟩ : ∃ n, R.length = n := ⟨_, rfl⟩
  have c0 : w.cell? ⟨pb, 0, none⟩ = some (.slice (some ⟨rb, 0, none⟩) n cap) := by rw [← hn]; exact block_cell h1 0
  have c1 : w.cell? ⟨pb, 1, none⟩ = some (.int .i64 (p : Int)) := block_cell h1 1
  have f1 : w.frozen? ⟨pb, 1, none⟩ = false := block_free h1 1
  have hdl : (R.drop p).length = n - p := by rw [List.length_drop, hn]
  have hwm : IntKind.i64.wrap ((p : Int) + (m : Int)) = ((p + m : Nat) : Int) := by rw [IntWalk.i64_in _ (by omega)]; rfl
  have hm0 : (tb.size : Int) = (m : Int) := by rw [hm]
  by_cases hbig : n < p + m
  · have d1 : (n : Int) < ((p + m : Nat) : Int) := by omega
    have HO : Hid (eat cls t (R.drop p) = none) := by
      show eat cls t (R.drop p) = none
      unfold eat
      rw [if_neg]
      intro hpre
      have := (List.isPrefixOf_iff_prefix.1 hpre).length_le
      omega
    clear hm hn h1 h5 hz hdl
    go_enter Tryd.func19, Tryd.ntmps19
    go_wp2_with fail
    go_quiet (fail)
    go_wp2
    go_ret
    exact .inr ⟨HO.out, rfl, HA.out.drewN _, (Frm.refl w [pb]).drewN _⟩
  · have d1 : ¬ (n : Int) < ((p + m : Nat) : Int) := by omega
    obtain ⟨pt, hpt⟩ : ∃ pt : ByteArray, (⟨(enc ((R.drop p).take m)).toArray⟩ : ByteArray) = pt := ⟨_, rfl⟩
    have hcv : ∀ n', (convert 43 9 (.slice (some ⟨rb, p, none⟩) m (cap - p))).run Tryd.prog (w.drewN n') = .ok (.string pt) (w.drewN n') := fun n' => by
      rw [← hpt]; exact part_text h5 (by omega) n'
    have d2 : (0 : Int) ≤ (p : Int) := by omega
    have d3 : (p : Int) ≤ ((p + m : Nat) : Int) := by omega
    have d4 : ((p + m : Nat) : Int) ≤ (cap : Int) := by omega
    have d5 : ¬ cap = p := by omega
    have d6 : ((p + m : Nat) : Int) - (p : Int) = (m : Int) := by omega
    have hgl : ∀ r ∈ R.drop p, GR r := fun r hr => HA.out.good r (List.mem_of_mem_drop hr)
    have hpre : (pt.toList == tb.toList) = t.isPrefixOf (R.drop p) := by
      rw [← hpt, ht.eq, ByteArray.toList_eq, ByteArray.toList_eq, Bool.eq_iff_iff, beq_iff_eq, List.isPrefixOf_iff_prefix, List.prefix_iff_eq_take]
      have hmt : m = t.length := by omega
      rw [hmt]
      constructor
      · intro e
        exact (enc_inj (fun r hr => hgl r (List.mem_of_mem_take hr)) (fun r hr => .inl (by have := ht.low r hr; omega)) e).symm
      · intro e
        show enc ((R.drop p).take t.length) = enc t
        rw [← e]
    cases hb : t.isPrefixOf (R.drop p) with
    | false =>
      rw [hb] at hpre
      have HO : Hid (eat cls t (R.drop p) = none) := by
        show eat cls t (R.drop p) = none
        unfold eat
        rw [hb]; rfl
      clear hm hn h1 h5 hz hdl hpt hb hgl
      go_enter Tryd.func19, Tryd.ntmps19
      go_wp2_with fail
      go_quiet (fail)
      go_wp2
      go_quiet (fail)
      go_wp2
      go_ret
      exact .inr ⟨HO.out, rfl, (HA.out.drewN _), (Frm.refl w [pb]).drewN _⟩
    | true =>
      rw [hb] at hpre
      have HO : Hid (eat cls t (R.drop p) = some (skipS cls (R.drop (p + m)))) := by
        show eat cls t (R.drop p) = _
        unfold eat
        rw [hb, if_pos rfl, List.drop_drop, show t.length = m from by omega]
      have HM : Hid (∀ n', At ((w.drewN n').setCell ⟨pb, 1, none⟩ (.int .i64 ((p : Int) + (m : Int)))) pb R (p + m)) := fun n' => (HA.out.drewN n').move (p + m) (by omega)
      have HF : Hid (∀ n', Frm w ((w.drewN n').setCell ⟨pb, 1, none⟩ (.int .i64 ((p : Int) + (m : Int)))) [pb]) := fun n' => ((Frm.refl w [pb]).drewN n').setCell _ _ (.inl (by simp))
      clear hm hn h1 h5 hz hdl hpt hb hgl
      go_enter Tryd.func19, Tryd.ntmps19
      go_wp2_with fail
      go_quiet (fail)
      go_wp2
      go_quiet (fail)
      go_wp2_with fail
      refine (skip_any pb R (p + m) _ (HM.out _) (HE.out.frm (HF.out _) (by simp))).mono ?_
      rintro e w3 ⟨rfl, hl3, hf3⟩
      have HL3 := Lib.hid hl3
      have HF3 := Lib.hid ((HF.out _).step hf3)
      clear hl3 hf3
      go_wp2_with fail
      go_ret
      exact .inl ⟨_, HO.out, rfl, HL3.out, HF3.out⟩

def errV (b : Nat) : Value := .iface 96 (.pointer (some ⟨b, 0, none⟩))

theorem errNew_any (s : ByteArray) (w : World) : Calls Tryd.prog 14 #[.string s] w fun e w' => e = .returned (errV w.heap.size) ∧ Below w.heap.size w w' := by
  go_enter Tryd.func14, Tryd.ntmps14
  go_wp2_with fail
  go_ret
  exact ⟨rfl, (Below.refl _ _).alloc (Nat.le_refl _) _⟩

/-- A fault: the reader panics with an error of its own. -/
def Bad (pb : Nat) (w : World) (e : Ending) (w' : World) : Prop := (∃ b, e = .panicked [⟨errV b, false, false⟩]) ∧ Frm w w' [pb]

theorem expect_any (t : List Nat) (tb : ByteArray) (ht : Tok t tb) (pb : Nat) (R : List Nat) (p : Nat) (w : World) (h : At w pb R p) (hE : Env w pb) :
    Calls Tryd.prog 27 #[.pointer (some ⟨pb, 0, none⟩), .string tb] w fun e w' => (∃ l, eat cls t (R.drop p) = some l ∧ e = .returned (.tuple #[]) ∧ Left w' pb R l ∧ Frm w w' [pb]) ∨ (eat cls t (R.drop p) = none ∧ Bad pb w e w') := by
  have HA := Lib.hid h
  have HE := Lib.hid hE
  clear h hE
  go_enter Tryd.func27, Tryd.ntmps27
  go_wp2_with fail
  refine (consume_any t tb ht pb R p _ HA.out HE.out).mono ?_
  rintro e w1 (⟨l, hl, rfl, hl1, hf1⟩ | ⟨hl, rfl, ha1, hf1⟩)
  · have HL := Lib.hid hl
    have HL1 := Lib.hid hl1
    have HF1 := Lib.hid hf1
    clear hl hl1 hf1
    go_wp2_with fail
    exact bodyPost_ret (results_none rfl _ _ _) rfl (.inl ⟨l, HL.out, rfl, HL1.out, HF1.out⟩)
  · have HL := Lib.hid hl
    have HF1 := Lib.hid hf1
    clear hl ha1 hf1
    go_wp2_with fail
    refine (errNew_any _ _).mono ?_
    rintro e w2 ⟨rfl, hb2⟩
    have HF2 := Lib.hid (HF1.out.step ((Frm.ofBelow hb2 []).mono' (by simp)))
    clear hb2
    unfold errV
    go_wp2_with fail
    exact ⟨rfl, .inr ⟨HL.out, ⟨_, rfl⟩, HF2.out⟩⟩

end Go.Proofs.YtfhnjgoipajiaaaDoor.pl
