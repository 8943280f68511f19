/-
  Contract of the reference's spec.Quoted at a literal of bytes. No statement of the seat is proved here.
-/
import Derived.Test.YtngofbhlhcalpaaDoorSpB
import Derived.Lib.BufferRead
namespace Go.Proofs.YtngofbhlhcalpaaDoor.quo
open Go.RowKit Go.Proofs.YtngofbhlhcalpaaDoor.gen

def cb (l : List UInt8) : List Value := l.map fun b => .int .u8 (b.toNat : Int)
theorem cb_len (l : List UInt8) : (cb l).length = l.length := by simp [cb]
theorem cb_app (a b : List UInt8) : cb (a ++ b) = cb a ++ cb b := by simp [cb]
theorem info_u8q : (Tryd.prog.info? 5).map (fun i => (i.zero, i.size, i.bytes)) = some (some (.int .u8 0), 1, 1) := by kernel_rfl

/-- 'string(v)'. -/
theorem own_text {w : World} {base : Nat} {v : Value} {l : List UInt8} (h : OwnC w base v (cb l)) : (convert 22 9 v).run Tryd.prog w = .ok (.string ⟨l.toArray⟩) w := by
  have h0 := h
  rcases h with ⟨rfl, h2⟩ | ⟨g, cap, rfl, _⟩
  · have : l = [] := by
      cases l with
      | nil => rfl
      | cons a r => simp [cb] at h2
    subst this
    exact Lib.run_convert_nil_bytes w _ _ _ 0 Tryd.underlying22 Tryd.underlying5 Tryd.underlying9
  · exact OwnC.text _ _ _ Tryd.underlying22 Tryd.underlying5 Tryd.underlying9 h0

theorem app_b {w W : World} {v : Value} {l : List UInt8} {ops : Array Oper} {rest : List Oper} {o : Oper} {a : Act} {Q : Exit → Act → World → Prop}
    (hF : Below w.heap.size w W) (hO : OwnC W w.heap.size v (cb l)) (hgd : o.guard = none) (S X : Operand) (ho : o.op = .call { callee := .builtin .append, args := #[S, X], argTypes := #[22, 22] }) (hs : a.eval S = v)
    (ad : Addr) (c : Nat) (b : UInt8) (hx : a.eval X = .slice (some ad) 1 c) (hnews : W.cell? ad = some (.int .u8 (nn b))) (hl : l.length ≤ 1099511627776)
    (h : ∀ v' w', OwnC w' w.heap.size v' (cb (l ++ [b])) → Below w.heap.size w w' → wpList Tryd.prog ops Q rest (a.put o.dst v') w') :
    wpList Tryd.prog ops Q (o :: rest) a W := by
  obtain ⟨i0, hi, hz0, hz1, hz2⟩ := info_parts info_u8q
  refine wpList_append_ownC _ hgd S X 22 ho w.heap.size 5 i0 (.int .u8 0) 1 Tryd.underlying22 hi hz0 hz1 hz2 rfl v l.length (cb l) hs (cb_len l) hO ad 1 c [.int .u8 (nn b)] hx rfl (by decide) ?_ (one_int _ _) (by unfold maxLen; omega) (by omega) hF.size ?_
  · intro j u hj
    have h0 : j = 0 := by
      have := (List.getElem?_eq_some_iff.1 hj).1
      simp at this; omega
    subst h0
    have e : ad.add 0 = ad := by unfold Addr.add; split <;> simp_all
    rw [e, hnews]
    exact hj
  · intro g' cap' w' h1 h2 h3
    exact h _ w' (by rw [cb_app]; exact h1) (hF.grown h2 hF.size fun r hr => (hO.lt r hr).1)

theorem own_one {w : World} {base : Nat} {v : Value} {c : UInt8} (h : OwnC w base v [.int .u8 (nn c)]) : ∃ g cap, v = .slice (some ⟨g, 0, none⟩) 1 cap ∧ w.cell? ⟨g, 0, none⟩ = some (.int .u8 (nn c)) := by
  rcases h with ⟨_, h2⟩ | ⟨g, cap, rfl, _, _, _, _, h3, _⟩
  · cases h2
  · exact ⟨g, cap, rfl, h3 0 (by simp)⟩

/-- The literal, as a text. -/
structure IsLit (s : ByteArray) (q : UInt8) (l : List UInt8) : Prop where
  eq : s.data.toList = lit q l
  sz : s.size ≤ 1099511627776
  ll : l.length ≤ 1099511627776

theorem IsLit.sf0 {s : ByteArray} {q : UInt8} {l : List UInt8} (h : IsLit s q l) : sf s 0 = lit q l := by rw [← h.eq]; rfl
theorem IsLit.size {s : ByteArray} {q : UInt8} {l : List UInt8} (h : IsLit s q l) : s.size = (encs q l).length + 3 := by
  rw [← len_list, h.eq]
  simp [lit]
theorem IsLit.at0 {s : ByteArray} {q : UInt8} {l : List UInt8} (h : IsLit s q l) : ∃ h0 : 0 < s.size, s[0] = 98 ∧ sf s 1 = q :: (encs q l ++ [q]) := sf_at h.sf0
theorem IsLit.at1 {s : ByteArray} {q : UInt8} {l : List UInt8} (h : IsLit s q l) : ∃ h0 : 1 < s.size, s[1] = q ∧ sf s 2 = encs q l ++ [q] := sf_at h.at0.2.2

theorem three_no {s : ByteArray} {q : UInt8} {l : List UInt8} (hq : q = 34 ∨ q = 39) (h : IsLit s q l) : [q, q, q].isPrefixOf (sf s 1) = false := by
  rw [h.at0.2.2]
  cases l with
  | nil => simp [encs, List.isPrefixOf]
  | cons c r =>
    obtain ⟨x, t, hx, h1, _⟩ := enc_head q c hq
    have : (q == x) = false := beq_eq_false_iff_ne.2 fun e => h1 e.symm
    simp [encs, hx, List.isPrefixOf, this]

def QuoRes (s : ByteArray) (l : List UInt8) (w : World) (e : Ending) (w' : World) : Prop := e = .returned (.tuple #[.string ⟨l.toArray⟩, .int .i64 (s.size : Int), .bool true]) ∧ Below w.heap.size w w'

/-- Within the literal: what is read, what is to come. -/
structure Qs (s : ByteArray) (q : UInt8) (l : List UInt8) (w : World) (done rest : List UInt8) (p : Nat) (v : Value) (wr : World) : Prop where
  eq : l = done ++ rest
  place : p = 2 + (encs q done).length
  own : OwnC wr w.heap.size v (cb done)
  bel : Below w.heap.size w wr
  suf : sf s p = encs q rest ++ [q]

theorem encs_app (q : UInt8) (a b : List UInt8) : encs q (a ++ b) = encs q a ++ encs q b := by
  induction a with
  | nil => rfl
  | cons c r ih => simp [encs, ih]

theorem Qs.next {s : ByteArray} {q c : UInt8} {l done rest : List UInt8} {w wr w' : World} {p : Nat} {v v' : Value} (h : Qs s q l w done (c :: rest) p v wr) (ho : OwnC w' w.heap.size v' (cb (done ++ [c]))) (hb : Below w.heap.size w w') :
    Qs s q l w (done ++ [c]) rest (p + (enc q c).length) v' w' := by
  refine ⟨by rw [h.eq]; simp, ?_, ho, hb, ?_⟩
  · rw [encs_app, List.length_append, h.place]
    simp [encs]; omega
  · rw [sf_drop, h.suf]
    simp [encs]

theorem enc_hex {a b : Nat} {t : List UInt8} {s : ByteArray} {p : Nat} (h : sf s p = 92 :: 120 :: hexd a :: hexd b :: t) : ∃ h3 : p + 3 < s.size, s[p] = 92 ∧ s[p + 1] = 120 ∧ s[p + 2] = hexd a ∧ s[p + 3] = hexd b := by
  obtain ⟨h0, e0, r0⟩ := sf_at h
  obtain ⟨h1, e1, r1⟩ := sf_at r0
  obtain ⟨h2, e2, r2⟩ := sf_at r1
  obtain ⟨h3, e3, r3⟩ := sf_at r2
  exact ⟨h3, e0, e1, e2, e3⟩

set_option maxRecDepth 100000 in
set_option maxHeartbeats 2000000 in
theorem quoted_34 (s : ByteArray) (l : List UInt8) (w : World) (hL : IsLit s 34 l) : Calls Tryd.prog 28 #[.string s, .int .i64 1, .bool false, .bool true] w (QuoRes s l w) := by
  have HL := Lib.hid hL
  have hsz := hL.sz
  have hll := hL.ll
  have hS := hL.size
  have h2 : (2 : Int) ≤ (s.size : Int) := by omega
  have hq1 : s.extract 1 2 = ⟨#[34]⟩ := by
    apply ByteArray.ext
    have e := sf_ext s 1 1
    rw [hL.at0.2.2] at e
    rw [ByteArray.toList_eq] at e
    have e : (s.extract 1 2).data.toList = [34] := e
    exact Array.toList_inj.1 e
  have HT := Lib.hid (three_no (by decide) hL)
  have HN := Lib.hid (Nat.le_refl 1)
  have HQ : Hid (Qs s 34 l w [] l 2 (.slice none 0 0) w) := ⟨rfl, rfl, OwnC.nil _ _, Below.refl _ _, hL.at1.2.2⟩
  clear hL hS
  go_enter Tryd.func28, Tryd.ntmps28
  go_wp2_with fail
  refine (starts_any s ⟨#[34, 34, 34]⟩ 1 false _ hsz (by decide) (by omega) HT.out).mono ?_
  rintro e w' ⟨rfl, rfl⟩
  go_wp2_with fail
  go_loopg [12, 13] (s.size - 2) (fun g v i wr => ∃ done rest p, g = s.size - p ∧ i = .int .i64 (p : Int) ∧ Hid (Qs s 34 l w done rest p v wr))
  case atStart => exact ⟨[], l, 2, by omega, rfl, HQ.out⟩
  case round =>
    obtain ⟨done, rest, p, hg, rfl, HK⟩ := hrel
    have hdl : done.length ≤ 1099511627776 := by have := congrArg List.length HK.out.eq; rw [List.length_append] at this; omega
    have hp0 : (0 : Int) ≤ (p : Int) := by omega
    cases rest with
    | nil =>
      obtain ⟨hlt, hc, hr⟩ := sf_at (show sf s p = 34 :: [] from HK.out.suf)
      have hp1 : (p : Int) < (s.size : Int) := by omega
      have hpe : p + 1 = s.size := by
        have := sf_len s (p + 1)
        rw [hr] at this
        simp at this
        omega
      have hst : Hid ([34].isPrefixOf (sf s p) = true) := by show [34].isPrefixOf (sf s p) = true; rw [HK.out.suf]; rfl
      have hcv := own_text HK.out.own
      have hw1 : IntKind.i64.wrap ((p : Int) + 1) = (s.size : Int) := by rw [← hpe]; exact IntWalk.i64_in _ (by omega)
      have hdn : Hid (done = l) := by show done = l; rw [HK.out.eq]; simp
      have HPE := Lib.hid hpe
      clear hc hr hpe
      go_wp2_with fail
      refine (starts_any s ⟨#[34]⟩ p true _ hsz (by decide) (by omega) hst.out).mono ?_
      rintro e w' ⟨rfl, rfl⟩
      go_wp2_with fail
      go_ret3
      exact ⟨by (rw [hdn.out]; rfl), HK.out.bel⟩
    | cons c rest =>
      have hsf : sf s p = enc 34 c ++ (encs 34 rest ++ [34]) := by rw [HK.out.suf]; simp [encs]
      rcases enc_cases 34 c (by decide) with ⟨h, n1, n2, n3, n4⟩ | ⟨h, n1⟩ | ⟨a, b, h, ha, hb, hcab⟩
      · have HE := Lib.hid h
        rw [h] at hsf
        obtain ⟨hlt, hc, hr⟩ := sf_at (show sf s p = c :: (encs 34 rest ++ [34]) from hsf)
        have hp1 : (p : Int) < (s.size : Int) := by omega
        have hst : Hid ([34].isPrefixOf (sf s p) = false) := by
          show [34].isPrefixOf (sf s p) = false
          rw [hsf]
          have : (34 == c) = false := beq_eq_false_iff_ne.2 fun e => n1 e.symm
          simp [List.isPrefixOf, this]
        have g1 : (s[p].toNat : Int) = nn c := by rw [hc]; rfl
        have c10 : (nn c == 10) = false := by rw [beq_eq_false_iff_ne]; unfold nn; omega
        have c13 : (nn c == 13) = false := by rw [beq_eq_false_iff_ne]; unfold nn; omega
        have c92 : (nn c == 92) = false := by
          rw [beq_eq_false_iff_ne]
          exact fun e => n2 (nn_inj e)
        have hw1 : IntKind.i64.wrap ((p : Int) + 1) = ((p + 1 : Nat) : Int) := by rw [IntWalk.i64_in _ (by omega)]; rfl
        clear hsf h n1 n2 n3 n4 hc hr
        go_wp2_with fail
        refine (starts_any s ⟨#[34]⟩ p false _ hsz (by decide) (by omega) hst.out).mono ?_
        rintro e w' ⟨rfl, rfl⟩
        go_wp2_with (at_builtin; refine app_b (b := c) (HK.out.bel.alloc HK.out.bel.size _) (HK.out.own.alloc _) rfl (.tmp 61) (.tmp 63) rfl rfl ⟨wr.heap.size, 0, none⟩ 1 rfl (block_cell (heap_alloc_new wr _) 0) hdl ?_; intro v' w' ho hb; have HQ2 := Lib.hid (HK.out.next ho hb); clear ho hb)
        rw [HE.out] at HQ2
        go_roundg (s.size - (p + 1))
        case measure => omega
        case rel => exact ⟨_, _, p + 1, rfl, by go_num, HQ2⟩
      · have HE := Lib.hid h
        rw [h] at hsf
        obtain ⟨hlt, hc, hr⟩ := sf_at (show sf s p = 92 :: c :: (encs 34 rest ++ [34]) from hsf)
        obtain ⟨hlt2, hc2, hr2⟩ := sf_at hr
        have hp1 : (p : Int) < (s.size : Int) := by omega
        have hst : Hid ([34].isPrefixOf (sf s p) = false) := by
          show [34].isPrefixOf (sf s p) = false
          rw [hsf]; rfl
        have g1 : (s[p].toNat : Int) = 92 := by rw [hc]; rfl
        have HC2 := Lib.hid hc2
        have HN1 := Lib.hid n1
        clear hsf h n1 hc hr hr2 hc2
        go_wp2_with fail
        refine (starts_any s ⟨#[34]⟩ p false _ hsz (by decide) (by omega) hst.out).mono ?_
        rintro e w' ⟨rfl, rfl⟩
        go_wp2_with fail
        refine (escape_self s p c HN1.out _ hsz hlt2 HC2.out).mono ?_
        rintro e w3 ⟨v3, rfl, ho3, hb3⟩
        obtain ⟨g3, cap3, rfl, hn3⟩ := own_one ho3
        have HB3 := Lib.hid (HK.out.bel.trans (hb3.mono HK.out.bel.size))
        have HO3 := Lib.hid (HK.out.own.below hb3)
        have HN3 := Lib.hid hn3
        clear ho3 hb3 hn3
        go_wp2_with (at_builtin; refine app_b (b := c) HB3.out HO3.out rfl (.tmp 131) (.tmp 132) rfl rfl ⟨g3, 0, none⟩ cap3 rfl HN3.out hdl ?_; intro v' w' ho hb; have HQ2 := Lib.hid (HK.out.next ho hb); clear ho hb)
        rw [HE.out] at HQ2
        go_roundg (s.size - (p + 2))
        case measure => omega
        case rel => exact ⟨_, _, p + 2, rfl, by go_num, HQ2⟩
      · have HE := Lib.hid h
        rw [h] at hsf
        obtain ⟨hlt3, hc, hc1, hc2, hc3⟩ := enc_hex (show sf s p = 92 :: 120 :: hexd a :: hexd b :: (encs 34 rest ++ [34]) from hsf)
        have hlt : p < s.size := by omega
        have hp1 : (p : Int) < (s.size : Int) := by omega
        have hst : Hid ([34].isPrefixOf (sf s p) = false) := by
          show [34].isPrefixOf (sf s p) = false
          rw [hsf]; rfl
        have g1 : (s[p].toNat : Int) = 92 := by rw [hc]; rfl
        have HX : Hid (∀ w, Calls Tryd.prog 41 #[.string s, .int .i64 (p : Int), .bool true] w (EscRes (p + 4) c w)) := fun w => escape_hex s p a b c ha hb hcab w hsz hlt3 hc1 hc2 hc3
        clear hsf h hc hc1 hc2 hc3 hcab
        go_wp2_with fail
        refine (starts_any s ⟨#[34]⟩ p false _ hsz (by decide) (by omega) hst.out).mono ?_
        rintro e w' ⟨rfl, rfl⟩
        go_wp2_with fail
        refine (HX.out _).mono ?_
        rintro e w3 ⟨v3, rfl, ho3, hb3⟩
        obtain ⟨g3, cap3, rfl, hn3⟩ := own_one ho3
        have HB3 := Lib.hid (HK.out.bel.trans (hb3.mono HK.out.bel.size))
        have HO3 := Lib.hid (HK.out.own.below hb3)
        have HN3 := Lib.hid hn3
        clear ho3 hb3 hn3
        go_wp2_with (at_builtin; refine app_b (b := c) HB3.out HO3.out rfl (.tmp 131) (.tmp 132) rfl rfl ⟨g3, 0, none⟩ cap3 rfl HN3.out hdl ?_; intro v' w' ho hb; have HQ2 := Lib.hid (HK.out.next ho hb); clear ho hb)
        rw [HE.out] at HQ2
        go_roundg (s.size - (p + 4))
        case measure => omega
        case rel => exact ⟨_, _, p + 4, rfl, by go_num, HQ2⟩
set_option maxRecDepth 100000 in
set_option maxHeartbeats 2000000 in
theorem quoted_39 (s : ByteArray) (l : List UInt8) (w : World) (hL : IsLit s 39 l) : Calls Tryd.prog 28 #[.string s, .int .i64 1, .bool false, .bool true] w (QuoRes s l w) := by
  have HL := Lib.hid hL
  have hsz := hL.sz
  have hll := hL.ll
  have hS := hL.size
  have h2 : (2 : Int) ≤ (s.size : Int) := by omega
  have hq1 : s.extract 1 2 = ⟨#[39]⟩ := by
    apply ByteArray.ext
    have e := sf_ext s 1 1
    rw [hL.at0.2.2] at e
    rw [ByteArray.toList_eq] at e
    have e : (s.extract 1 2).data.toList = [39] := e
    exact Array.toList_inj.1 e
  have HT := Lib.hid (three_no (by decide) hL)
  have HN := Lib.hid (Nat.le_refl 1)
  have HQ : Hid (Qs s 39 l w [] l 2 (.slice none 0 0) w) := ⟨rfl, rfl, OwnC.nil _ _, Below.refl _ _, hL.at1.2.2⟩
  clear hL hS
  go_enter Tryd.func28, Tryd.ntmps28
  go_wp2_with fail
  refine (starts_any s ⟨#[39, 39, 39]⟩ 1 false _ hsz (by decide) (by omega) HT.out).mono ?_
  rintro e w' ⟨rfl, rfl⟩
  go_wp2_with fail
  go_loopg [12, 13] (s.size - 2) (fun g v i wr => ∃ done rest p, g = s.size - p ∧ i = .int .i64 (p : Int) ∧ Hid (Qs s 39 l w done rest p v wr))
  case atStart => exact ⟨[], l, 2, by omega, rfl, HQ.out⟩
  case round =>
    obtain ⟨done, rest, p, hg, rfl, HK⟩ := hrel
    have hdl : done.length ≤ 1099511627776 := by have := congrArg List.length HK.out.eq; rw [List.length_append] at this; omega
    have hp0 : (0 : Int) ≤ (p : Int) := by omega
    cases rest with
    | nil =>
      obtain ⟨hlt, hc, hr⟩ := sf_at (show sf s p = 39 :: [] from HK.out.suf)
      have hp1 : (p : Int) < (s.size : Int) := by omega
      have hpe : p + 1 = s.size := by
        have := sf_len s (p + 1)
        rw [hr] at this
        simp at this
        omega
      have hst : Hid ([39].isPrefixOf (sf s p) = true) := by show [39].isPrefixOf (sf s p) = true; rw [HK.out.suf]; rfl
      have hcv := own_text HK.out.own
      have hw1 : IntKind.i64.wrap ((p : Int) + 1) = (s.size : Int) := by rw [← hpe]; exact IntWalk.i64_in _ (by omega)
      have hdn : Hid (done = l) := by show done = l; rw [HK.out.eq]; simp
      have HPE := Lib.hid hpe
      clear hc hr hpe
      go_wp2_with fail
      refine (starts_any s ⟨#[39]⟩ p true _ hsz (by decide) (by omega) hst.out).mono ?_
      rintro e w' ⟨rfl, rfl⟩
      go_wp2_with fail
      go_ret3
      exact ⟨by (rw [hdn.out]; rfl), HK.out.bel⟩
    | cons c rest =>
      have hsf : sf s p = enc 39 c ++ (encs 39 rest ++ [39]) := by rw [HK.out.suf]; simp [encs]
      rcases enc_cases 39 c (by decide) with ⟨h, n1, n2, n3, n4⟩ | ⟨h, n1⟩ | ⟨a, b, h, ha, hb, hcab⟩
      · have HE := Lib.hid h
        rw [h] at hsf
        obtain ⟨hlt, hc, hr⟩ := sf_at (show sf s p = c :: (encs 39 rest ++ [39]) from hsf)
        have hp1 : (p : Int) < (s.size : Int) := by omega
        have hst : Hid ([39].isPrefixOf (sf s p) = false) := by
          show [39].isPrefixOf (sf s p) = false
          rw [hsf]
          have : (39 == c) = false := beq_eq_false_iff_ne.2 fun e => n1 e.symm
          simp [List.isPrefixOf, this]
        have g1 : (s[p].toNat : Int) = nn c := by rw [hc]; rfl
        have c10 : (nn c == 10) = false := by rw [beq_eq_false_iff_ne]; unfold nn; omega
        have c13 : (nn c == 13) = false := by rw [beq_eq_false_iff_ne]; unfold nn; omega
        have c92 : (nn c == 92) = false := by
          rw [beq_eq_false_iff_ne]
          exact fun e => n2 (nn_inj e)
        have hw1 : IntKind.i64.wrap ((p : Int) + 1) = ((p + 1 : Nat) : Int) := by rw [IntWalk.i64_in _ (by omega)]; rfl
        clear hsf h n1 n2 n3 n4 hc hr
        go_wp2_with fail
        refine (starts_any s ⟨#[39]⟩ p false _ hsz (by decide) (by omega) hst.out).mono ?_
        rintro e w' ⟨rfl, rfl⟩
        go_wp2_with (at_builtin; refine app_b (b := c) (HK.out.bel.alloc HK.out.bel.size _) (HK.out.own.alloc _) rfl (.tmp 61) (.tmp 63) rfl rfl ⟨wr.heap.size, 0, none⟩ 1 rfl (block_cell (heap_alloc_new wr _) 0) hdl ?_; intro v' w' ho hb; have HQ2 := Lib.hid (HK.out.next ho hb); clear ho hb)
        rw [HE.out] at HQ2
        go_roundg (s.size - (p + 1))
        case measure => omega
        case rel => exact ⟨_, _, p + 1, rfl, by go_num, HQ2⟩
      · have HE := Lib.hid h
        rw [h] at hsf
        obtain ⟨hlt, hc, hr⟩ := sf_at (show sf s p = 92 :: c :: (encs 39 rest ++ [39]) from hsf)
        obtain ⟨hlt2, hc2, hr2⟩ := sf_at hr
        have hp1 : (p : Int) < (s.size : Int) := by omega
        have hst : Hid ([39].isPrefixOf (sf s p) = false) := by
          show [39].isPrefixOf (sf s p) = false
          rw [hsf]; rfl
        have g1 : (s[p].toNat : Int) = 92 := by rw [hc]; rfl
        have HC2 := Lib.hid hc2
        have HN1 := Lib.hid n1
        clear hsf h n1 hc hr hr2 hc2
        go_wp2_with fail
        refine (starts_any s ⟨#[39]⟩ p false _ hsz (by decide) (by omega) hst.out).mono ?_
        rintro e w' ⟨rfl, rfl⟩
        go_wp2_with fail
        refine (escape_self s p c HN1.out _ hsz hlt2 HC2.out).mono ?_
        rintro e w3 ⟨v3, rfl, ho3, hb3⟩
        obtain ⟨g3, cap3, rfl, hn3⟩ := own_one ho3
        have HB3 := Lib.hid (HK.out.bel.trans (hb3.mono HK.out.bel.size))
        have HO3 := Lib.hid (HK.out.own.below hb3)
        have HN3 := Lib.hid hn3
        clear ho3 hb3 hn3
        go_wp2_with (at_builtin; refine app_b (b := c) HB3.out HO3.out rfl (.tmp 131) (.tmp 132) rfl rfl ⟨g3, 0, none⟩ cap3 rfl HN3.out hdl ?_; intro v' w' ho hb; have HQ2 := Lib.hid (HK.out.next ho hb); clear ho hb)
        rw [HE.out] at HQ2
        go_roundg (s.size - (p + 2))
        case measure => omega
        case rel => exact ⟨_, _, p + 2, rfl, by go_num, HQ2⟩
      · have HE := Lib.hid h
        rw [h] at hsf
        obtain ⟨hlt3, hc, hc1, hc2, hc3⟩ := enc_hex (show sf s p = 92 :: 120 :: hexd a :: hexd b :: (encs 39 rest ++ [39]) from hsf)
        have hlt : p < s.size := by omega
        have hp1 : (p : Int) < (s.size : Int) := by omega
        have hst : Hid ([39].isPrefixOf (sf s p) = false) := by
          show [39].isPrefixOf (sf s p) = false
          rw [hsf]; rfl
        have g1 : (s[p].toNat : Int) = 92 := by rw [hc]; rfl
        have HX : Hid (∀ w, Calls Tryd.prog 41 #[.string s, .int .i64 (p : Int), .bool true] w (EscRes (p + 4) c w)) := fun w => escape_hex s p a b c ha hb hcab w hsz hlt3 hc1 hc2 hc3
        clear hsf h hc hc1 hc2 hc3 hcab
        go_wp2_with fail
        refine (starts_any s ⟨#[39]⟩ p false _ hsz (by decide) (by omega) hst.out).mono ?_
        rintro e w' ⟨rfl, rfl⟩
        go_wp2_with fail
        refine (HX.out _).mono ?_
        rintro e w3 ⟨v3, rfl, ho3, hb3⟩
        obtain ⟨g3, cap3, rfl, hn3⟩ := own_one ho3
        have HB3 := Lib.hid (HK.out.bel.trans (hb3.mono HK.out.bel.size))
        have HO3 := Lib.hid (HK.out.own.below hb3)
        have HN3 := Lib.hid hn3
        clear ho3 hb3 hn3
        go_wp2_with (at_builtin; refine app_b (b := c) HB3.out HO3.out rfl (.tmp 131) (.tmp 132) rfl rfl ⟨g3, 0, none⟩ cap3 rfl HN3.out hdl ?_; intro v' w' ho hb; have HQ2 := Lib.hid (HK.out.next ho hb); clear ho hb)
        rw [HE.out] at HQ2
        go_roundg (s.size - (p + 4))
        case measure => omega
        case rel => exact ⟨_, _, p + 4, rfl, by go_num, HQ2⟩

end Go.Proofs.YtngofbhlhcalpaaDoor.quo
