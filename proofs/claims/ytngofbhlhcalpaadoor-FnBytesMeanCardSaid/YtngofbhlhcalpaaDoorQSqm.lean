/-
  Contract of token.QuoteSQLBytes: the literal of bytes. No statement of the seat is proved here.
-/
import Derived.Test.YtngofbhlhcalpaaDoorQSql
namespace Go.Proofs.YtngofbhlhcalpaaDoor.quo
open Go.RowKit Go.Proofs.YtngofbhlhcalpaaDoor.gen
open Go.Lib (byteCells)

/-- The buffer, the call's own; w is the world in which the call began. -/
structure Bf (w w1 : World) (l : List UInt8) : Prop where
  buf : Lib.IsBuffer 36 5 w.heap.size w.heap.size (byteCells l) w1
  bel : Below w.heap.size w w1

theorem Bf.fresh (w : World) : Bf w (w.alloc (.cells #[.slice none 0 0, .int .i64 0, .int .i8 0] 36)) [] :=
  ⟨Lib.fresh_isBuffer _ _ w, (Below.refl _ _).alloc (Nat.le_refl _) _⟩
theorem byteCells_len (l : List UInt8) : (byteCells l).length = l.length := by simp [byteCells]
theorem byteCells_app (a b : List UInt8) : byteCells (a ++ b) = byteCells a ++ byteCells b := by simp [byteCells]

theorem write_text (w w1 : World) (l t : List UInt8) (h : Bf w w1 l) (hl : l.length + t.length ≤ 140737488355328) : Calls Tryd.prog 9 #[.pointer (some ⟨w.heap.size, 0, none⟩), .string ⟨t.toArray⟩] w1 fun e w2 => (∃ v, e = .returned v) ∧ Bf w w2 (l ++ t) := by
  refine (Tryd.Buffer_WriteString_k w.heap.size w.heap.size (byteCells l) ⟨t.toArray⟩ w1 h.buf h.bel.size (Lib.byteCells_one l) (by rw [byteCells_len]; exact hl)).mono ?_
  rintro e w2 ⟨rfl, h1, h2, _⟩
  refine ⟨⟨_, rfl⟩, ?_, h.bel.trans h2⟩
  rw [byteCells_app]
  exact h1

theorem write_byte (w w1 : World) (l : List UInt8) (c : UInt8) (h : Bf w w1 l) (hl : l.length + 1 ≤ 140737488355328) : Calls Tryd.prog 13 #[.pointer (some ⟨w.heap.size, 0, none⟩), .int .u8 (nn c)] w1 fun e w2 => (∃ v, e = .returned v) ∧ Bf w w2 (l ++ [c]) := by
  refine (Tryd.Buffer_WriteByte_k w.heap.size w.heap.size (byteCells l) (nn c) w1 h.buf h.bel.size (Lib.byteCells_one l) (by rw [byteCells_len]; exact hl)).mono ?_
  rintro e w2 ⟨rfl, h1, h2, _⟩
  refine ⟨⟨_, rfl⟩, ?_, h.bel.trans h2⟩
  rw [byteCells_app]
  exact h1

theorem write_rune (w w1 : World) (l : List UInt8) (c : UInt8) (hc : c.toNat < 128) (h : Bf w w1 l) (hl : l.length + 1 ≤ 140737488355328) : Calls Tryd.prog 10 #[.pointer (some ⟨w.heap.size, 0, none⟩), .int .i32 (nn c)] w1 fun e w2 => (∃ v, e = .returned v) ∧ Bf w w2 (l ++ [c]) := by
  refine (Tryd.Buffer_WriteRune_ascii w.heap.size w.heap.size (byteCells l) (nn c) (nn_bd c).1 (by unfold nn; omega) w1 h.buf h.bel.size (Lib.byteCells_one l) (by rw [byteCells_len]; exact hl)).mono ?_
  rintro e w2 ⟨rfl, h1, h2, _⟩
  refine ⟨⟨_, rfl⟩, ?_, h.bel.trans h2⟩
  rw [byteCells_app]
  exact h1

theorem read_all (w w1 : World) (l : List UInt8) (h : Bf w w1 l) : Calls Tryd.prog 15 #[.pointer (some ⟨w.heap.size, 0, none⟩)] w1 (TextRes l w) := by
  refine (Tryd.Buffer_String w.heap.size w.heap.size l w1 h.buf).mono ?_
  rintro e w2 ⟨rfl, n, rfl⟩
  exact ⟨rfl, below_drewN h.bel n⟩

theorem Bf.below {w w1 w2 : World} {l : List UInt8} (h : Bf w w1 l) (hb : Below w1.heap.size w1 w2) : Bf w w2 l := by
  obtain ⟨h1, v, lr, h2, h3, h4⟩ := h.buf
  refine ⟨⟨h1, v, lr, (hb.block _ (block_lt h2)).trans h2, ⟨h3.1, ?_⟩, h4⟩, h.bel.trans (hb.mono h.bel.size)⟩
  rcases h3.2 with h5 | ⟨g, cap, cur, k1, k2, k3, k4⟩
  · exact .inl h5
  · exact .inr ⟨g, cap, cur, k1, k2, (hb.block _ (block_lt k3)).trans k3, k4⟩
theorem bytes_app (a b : List UInt8) (x : ByteArray) (hx : x = ⟨a.toArray⟩) : x ++ (⟨b.toArray⟩ : ByteArray) = ⟨(a ++ b).toArray⟩ := by
  subst hx
  apply ByteArray.ext
  rw [ByteArray.data_append]
  simp
theorem Tz.bf {w w1 : World} {l : List UInt8} (h : Tz w) (hb : Bf w w1 l) : Tz w1 := h.below hb.bel

/-- What a byte becomes. -/
theorem enc_sq (q c : UInt8) : (sq q c ≠ [] ∧ enc q c = sq q c) ∨ (sq q c = [] ∧ prb c = true ∧ enc q c = [c]) ∨ (sq q c = [] ∧ prb c = false ∧ enc q c = [92, 120] ++ hex2 c.toNat) := by
  unfold sq enc
  by_cases h1 : c = q
  · rw [if_pos h1, if_pos h1]; exact .inl ⟨by simp, rfl⟩
  · rw [if_neg h1, if_neg h1]
    by_cases h2 : c = 92
    · rw [if_pos h2, if_pos h2]; exact .inl ⟨by simp, rfl⟩
    · rw [if_neg h2, if_neg h2]
      have hp : prb c = decide (32 ≤ c.toNat ∧ c.toNat ≤ 126) := by
        unfold prb nn
        rw [← Bool.decide_and]
        exact decide_eq_decide.2 (by omega)
      by_cases h3 : 32 ≤ c.toNat ∧ c.toNat ≤ 126
      · rw [if_pos h3]
        exact .inr (.inl ⟨rfl, by rw [hp]; exact decide_eq_true h3, rfl⟩)
      · rw [if_neg h3]
        exact .inr (.inr ⟨rfl, by rw [hp]; exact decide_eq_false h3, rfl⟩)

theorem encs_take (q : UInt8) (l : List UInt8) (k : Nat) (h : k < l.length) : encs q (l.take (k + 1)) = encs q (l.take k) ++ enc q (l[k]) := by
  rw [List.take_add_one, List.getElem?_eq_getElem h]
  exact encs_snoc q _ _

set_option maxRecDepth 100000 in
set_option maxHeartbeats 1000000 in
theorem quote_any (v : Value) (l : List UInt8) (w : World) (hl : l.length ≤ 2147483647) (h : BytesAt w v l) (ht : Tz w) : Calls Tryd.prog 6 #[v] w (TextRes (lit (qOf l) l) w) := by
  obtain ⟨n, hn⟩ : ∃ n, n = l.length := ⟨_, rfl⟩
  obtain ⟨ao, cap, hv⟩ : ∃ ao cap, v = .slice ao n cap := by
    rcases h with ⟨h1, ao, cap, h2⟩ | ⟨b, off, cap, h1, _⟩
    · exact ⟨ao, cap, by rw [h2, hn, h1]; rfl⟩
    · exact ⟨_, cap, by rw [h1, hn]⟩
  subst hv
  have hn2 : n ≤ 2147483647 := by omega
  have HN := Lib.hid hn
  have HV := Lib.hid h
  have HT := Lib.hid ht
  have hq := qOf_cases l
  obtain ⟨q, hqe⟩ : ∃ q, qOf l = q := ⟨_, rfl⟩
  have HS : Hid (∀ W, Below w.heap.size w W → Calls Tryd.prog 8 #[.slice ao n cap] W fun e w' => e = .returned (.int .i32 (nn q)) ∧ W = w') := fun W hW => by
    have := suitable_any (.slice ao n cap) l W hl (h.below hW)
    unfold QRes at this
    rw [hqe] at this
    exact this
  rw [hqe] at hq ⊢
  have hq128 : q.toNat < 128 := by rcases hq with rfl | rfl <;> decide
  have HQ := Lib.hid hq
  clear hn h ht hq hqe hl
  go_enter Tryd.func6, Tryd.ntmps6
  go_wp2_with fail
  refine (HS.out _ (Below.refl _ _)).mono ?_
  rintro e w' ⟨rfl, rfl⟩
  go_wp2_with fail
  refine (write_text w _ [] [98] (Bf.fresh w) (by decide)).mono ?_
  rintro e w1 ⟨⟨v1, rfl⟩, hb1⟩
  have HB1 := Lib.hid hb1
  clear hb1
  go_wp2_with fail
  refine (write_rune w _ ([] ++ [98]) q hq128 HB1.out (by decide)).mono ?_
  rintro e w2 ⟨⟨v2, rfl⟩, hb2⟩
  have HB2 := Lib.hid hb2
  clear hb2
  go_wp2_with fail
  go_loopg [15] n (fun g i wr => ∃ k : Nat, g = n - k ∧ k ≤ n ∧ i = .int .i64 (k : Int) ∧ Hid (Bf w wr (98 :: q :: encs q (l.take k))))
  case atStart => exact ⟨0, rfl, Nat.zero_le _, rfl, HB2.out⟩
  case round =>
    obtain ⟨k, hg, hk, rfl, HBk⟩ := hrel
    have hkw : IntKind.i64.wrap ((k : Int) + 1) = (k : Int) + 1 := IntWalk.i64_in _ (by omega)
    have hle : (encs q (l.take k)).length ≤ 8589934588 := by
      have h1 := (encs_len q (l.take k)).2
      rw [List.length_take] at h1
      omega
    by_cases hlt : k < n
    · have hkl : k < l.length := by have := HN.out; omega
      have hi0 : (0 : Int) ≤ (k : Int) := by omega
      have hi1 : (k : Int) < (n : Int) := by omega
      obtain ⟨c, hce⟩ : ∃ c, l[k]'hkl = c := ⟨_, rfl⟩
      have HE := Lib.hid (encs_take q l k hkl)
      rw [hce] at HE
      obtain ⟨b, off, rfl, hcell⟩ : ∃ b off, ao = some ⟨b, off, none⟩ ∧ wr.cell? ⟨b, off + k, none⟩ = some (.int .u8 (nn c)) := by
        rcases HV.out with ⟨h1, _⟩ | ⟨b, off, cap', h1, h2, h3⟩
        · rw [h1] at hkl; simp at hkl
        · injection h1 with h4 _ _
          refine ⟨b, off, h4, ?_⟩
          rw [HBk.out.bel.cell (p := ⟨b, off + k, none⟩) h2, h3 k hkl, hce]
      have hwi : IntKind.i32.wrap (nn c) = nn c := by rw [IntKind.wrap_i32]; have := nn_bd c; omega
      have hwu : IntKind.u64.wrap (nn c) = nn c := by rw [IntKind.wrap_u64]; have := nn_bd c; omega
      clear hce
      rcases enc_sq q c with ⟨h1, h2⟩ | ⟨h1, h2, h3⟩ | ⟨h1, h2, h3⟩
      · have hne : (sq q c).isEmpty = false := by
          cases h9 : sq q c with
          | nil => exact absurd h9 h1
          | cons a b => rfl
        have hsl : (sq q c).length ≤ 2 := by unfold sq; split; exact Nat.le_refl _; split; exact Nat.le_refl _; exact Nat.zero_le _
        rw [h2] at HE
        clear h1 h2
        go_wp2_with fail
        refine (single_any q c HQ.out _).mono ?_
        rintro e w' ⟨rfl, rfl⟩
        go_wp2_with fail
        refine (write_text w _ (98 :: q :: encs q (l.take k)) (sq q c) HBk.out (by simp only [List.length_cons]; omega)).mono ?_
        rintro e w3 ⟨⟨v3, rfl⟩, hb3⟩
        have HB3 := Lib.hid hb3
        clear hb3
        go_wp2_with fail
        go_roundg (n - (k + 1))
        case measure => omega
        case rel => exact ⟨k + 1, rfl, by omega, by go_num, by (show Bf _ _ _; rw [HE.out]; exact HB3.out)⟩
      · have hne : (sq q c).isEmpty = true := by rw [h1]; rfl
        rw [h3] at HE
        clear h1 h3
        go_wp2_with fail
        refine (single_any q c HQ.out _).mono ?_
        rintro e w' ⟨rfl, rfl⟩
        go_wp2_with fail
        refine (isPrint_any c _).mono ?_
        rintro e w' ⟨rfl, rfl⟩
        rw [h2]
        go_wp2_with fail
        refine (write_byte w _ (98 :: q :: encs q (l.take k)) c HBk.out (by simp only [List.length_cons]; omega)).mono ?_
        rintro e w3 ⟨⟨v3, rfl⟩, hb3⟩
        have HB3 := Lib.hid hb3
        clear hb3
        go_wp2_with fail
        go_roundg (n - (k + 1))
        case measure => omega
        case rel => exact ⟨k + 1, rfl, by omega, by go_num, by (show Bf _ _ _; rw [HE.out]; exact HB3.out)⟩
      · have hne : (sq q c).isEmpty = true := by rw [h1]; rfl
        rw [h3] at HE
        clear h1 h3
        go_wp2_with fail
        refine (single_any q c HQ.out _).mono ?_
        rintro e w' ⟨rfl, rfl⟩
        go_wp2_with fail
        refine (isPrint_any c _).mono ?_
        rintro e w' ⟨rfl, rfl⟩
        rw [h2]
        go_wp2_with fail
        refine (zzHex_any c.toNat c.toNat_lt _ (HT.out.bf HBk.out)).mono ?_
        rintro e w3 ⟨rfl, hb3⟩
        have HB3 := Lib.hid hb3
        have HBf : Hid (Bf w w3 (98 :: q :: encs q (l.take k))) := HBk.out.below HB3.out
        clear hb3
        go_wp2_with fail
        rw [bytes_app [92, 120] (hex2 c.toNat) ⟨#[92, 120]⟩ rfl]
        refine (write_text w _ (98 :: q :: encs q (l.take k)) ([92, 120] ++ hex2 c.toNat) HBf.out (by simp only [List.length_cons, hex2, List.length_append, List.length_nil]; omega)).mono ?_
        rintro e w4 ⟨⟨v4, rfl⟩, hb4⟩
        have HB4 := Lib.hid hb4
        clear hb4
        go_wp2_with fail
        go_roundg (n - (k + 1))
        case measure => omega
        case rel => exact ⟨k + 1, rfl, by omega, by go_num, by (show Bf _ _ _; rw [HE.out]; exact HB4.out)⟩
    · obtain rfl : k = n := by omega
      have htk : l.take k = l := List.take_of_length_le (by have := HN.out; omega)
      rw [htk] at hle HBk
      go_wp2_with fail
      refine (write_rune w _ (98 :: q :: encs q l) q hq128 HBk.out (by simp only [List.length_cons]; omega)).mono ?_
      rintro e w3 ⟨⟨v3, rfl⟩, hb3⟩
      have HB3 := Lib.hid hb3
      clear hb3
      go_wp2_with fail
      refine (read_all w _ _ HB3.out).mono ?_
      rintro e w4 ⟨rfl, hb4⟩
      go_wp2_with fail
      go_ret
      exact ⟨rfl, hb4⟩

theorem impl_quote_any (v : Value) (l : List UInt8) (w : World) (hl : l.length ≤ 2147483647) (h : BytesAt w v l) (ht : Tz w) : Calls Tryd.prog 4 #[v] w (TextRes (lit (qOf l) l) w) := by
  have HV := Lib.hid h
  have HT := Lib.hid ht
  clear h ht
  go_enter Tryd.func4, Tryd.ntmps4
  go_wp2_with fail
  refine (quote_any v l _ hl HV.out HT.out).mono ?_
  rintro e w1 ⟨rfl, hb⟩
  go_wp2_with fail
  go_ret
  exact ⟨rfl, hb⟩

end Go.Proofs.YtngofbhlhcalpaaDoor.quo
