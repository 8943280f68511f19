/-
  Contracts of laws.ascii, spec.lSpaced, laws.upper. No statement of the seat is proved here.
-/
import Derived.Test.YthndckejdalabaaKw
namespace Go.Proofs.Ythndckejdalabaa.upper
open Go.RowKit Go.Proofs.Ythndckejdalabaa.gen

theorem getD_at (s : ByteArray) (k : Nat) (h : k < s.size) : s.data.toList[k]? = some s[k] := by
  have h2 : k < s.data.toList.length := by rw [Array.length_toList]; exact h
  rw [List.getElem?_eq_getElem h2]; rfl

def SomeBool (w : World) (e : Ending) (w' : World) : Prop := ∃ b, e = .returned (.bool b) ∧ w = w'
def spaced (l : List UInt8) : Bool := l.contains 32

theorem ascii_any (s : ByteArray) (w : World) (hs : s.size ≤ 2147483648) :
    Calls Try.prog 10 #[.string s] w (SomeBool w) := by
  go_enter Try.func10, Try.ntmps10
  go_wp2
  go_loop [3] (fun i => ∃ k : Nat, k ≤ s.size ∧ i = .int .i64 k) (fun i => s.size - (intOf i).toNat)
  case atStart => exact ⟨0, by omega, rfl⟩
  case round =>
    obtain ⟨k, hk, rfl⟩ := hrel
    by_cases hlt : k < s.size
    · by_cases hc : (128 : Int) ≤ (s[k].toNat : Int)
      · go_wp2
        go_ret
        exact ⟨_, rfl, rfl⟩
      · go_wp2
        go_round
        case rel => exact ⟨k + 1, by omega, by go_num⟩
        case measure => simp [intOf]; omega
    · go_wp2
      go_ret
      exact ⟨_, rfl, rfl⟩

theorem lSpaced_any (s : ByteArray) (w : World) (hs : s.size ≤ 2147483648) :
    Calls Try.prog 20 #[.string s] w fun e w' => e = .returned (.bool (spaced s.data.toList)) ∧ w = w' := by
  go_enter Try.func20, Try.ntmps20
  go_wp2
  go_loop [3] (fun i => ∃ k : Nat, k ≤ s.size ∧ i = .int .i64 k ∧ Hid (spaced (s.data.toList.take k) = false)) (fun i => s.size - (intOf i).toNat)
  case atStart => exact ⟨0, by omega, rfl, rfl⟩
  case round =>
    obtain ⟨k, hk, rfl, HF⟩ := hrel
    by_cases hlt : k < s.size
    · by_cases hc : s[k].toNat = 32
      · have HT : Hid (spaced s.data.toList = true) := by
          rw [Hid, spaced, List.contains_iff_mem]
          have : s[k] = 32 := UInt8.toNat.inj hc
          rw [← this]
          exact List.mem_of_getElem? (getD_at s k hlt)
        have hb : ((s[k].toNat : Int) == 32) = true := by rw [hc]; rfl
        clear hc
        go_wp2
        go_ret
        exact ⟨ret_bool HT.out.symm, rfl⟩
      · have HT : Hid (spaced (s.data.toList.take (k + 1)) = false) := by
          rw [take_snoc s k hlt]
          have h1 := HF.out
          have hne : s[k] ≠ 32 := fun e => hc (by rw [e]; rfl)
          rw [spaced, List.contains_eq_mem] at h1
          rw [Hid, spaced, List.contains_eq_mem]
          simp at h1 ⊢
          exact ⟨h1, fun e => hne e.symm⟩
        have hb : ((s[k].toNat : Int) == 32) = false := by
          rw [beq_eq_false_iff_ne]; omega
        clear hc HF
        go_wp2
        go_round
        case rel => exact ⟨k + 1, by omega, by go_num, HT⟩
        case measure => simp [intOf]; omega
    · have hall : s.data.toList.take k = s.data.toList := List.take_of_length_le (by rw [Array.length_toList]; show s.size ≤ k; omega)
      rw [hall] at HF
      clear hall
      go_wp2
      go_ret
      exact ⟨ret_bool HF.out.symm, rfl⟩

theorem setCell_ownC {w : World} {base g n cap : Nat} {xs : List Value} (h : OwnC w base (.slice (some ⟨g, 0, none⟩) n cap) xs) (k : Nat) (hk : k < n) (u : Value) :
    OwnC (w.setCell ⟨g, k, none⟩ u) base (.slice (some ⟨g, 0, none⟩) n cap) (xs.set k u) := by
  rcases h with ⟨h, _⟩ | ⟨g', cap', hv, hb, hg, hl, hm, hc, hf⟩
  · cases h
  · cases hv
    refine .inr ⟨g, cap, by simp, hb, by simpa using hg, by rw [List.length_set]; exact hl, hm, fun j hj => ?_, fun j hj => ?_⟩
    · rw [List.length_set] at hj
      by_cases hjk : j = k
      · subst hjk
        have := World.cell?_setCells_in g [u] j w (fun i hi => by simp at hi; subst hi; exact (hf j (by omega)).1) 0 (by simp)
        simpa [World.setCells, hj] using this
      · have := World.cell?_setCells_out g [u] k w ⟨g, j, none⟩ (fun _ _ => by simp; omega)
        rw [List.getElem?_set_ne (by omega), ← hc j hj]
        simpa [World.setCells] using this
    · have h2 := World.frozen?_setCells g [u] k w ⟨g, j, none⟩
      refine ⟨?_, by rw [← (hf j hj).2]; exact h2⟩
      by_cases hjk : j = k
      · subst hjk
        have := World.cell?_setCells_in g [u] j w (fun i hi => by simp at hi; subst hi; exact (hf j (by omega)).1) 0 (by simp)
        have h3 : (w.setCell ⟨g, j, none⟩ u).cell? ⟨g, j, none⟩ = some u := by simpa [World.setCells] using this
        rw [h3]; rfl
      · have := World.cell?_setCells_out g [u] k w ⟨g, j, none⟩ (fun _ _ => by simp; omega)
        have h3 : (w.setCell ⟨g, k, none⟩ u).cell? ⟨g, j, none⟩ = w.cell? ⟨g, j, none⟩ := by simpa [World.setCells] using this
        rw [h3]; exact (hf j hj).1

theorem own_bv {w : World} {base g n cap : Nat} {l : List UInt8} (h : OwnC w base (.slice (some ⟨g, 0, none⟩) n cap) (bv l)) (k : Nat) (c : UInt8) (hk : l[k]? = some c) :
    w.cell? ⟨g, k, none⟩ = some (.int .u8 (c.toNat : Int)) ∧ w.frozen? ⟨g, k, none⟩ = false ∧ k < n ∧ n = l.length ∧ base ≤ g := by
  have hl : k < l.length := (List.getElem?_eq_some_iff.1 hk).1
  rcases h with ⟨h, _⟩ | ⟨g', cap', hv, hb, hg, hl2, hm, hc, hf⟩
  · cases h
  · cases hv
    rw [bv_len] at *
    refine ⟨?_, (hf k (by omega)).2, hl, rfl, hb⟩
    rw [hc k hl]
    simp only [bv, List.getElem?_map, hk, Option.map_some]

theorem bv_set (l : List UInt8) (k : Nat) (c : UInt8) : (bv l).set k (.int .u8 (c.toNat : Int)) = bv (l.set k c) := by
  unfold bv
  rw [List.map_set]

def L (l : List UInt8) (k : Nat) : List UInt8 := up (l.take k) ++ l.drop k

theorem L_at (s : ByteArray) (k : Nat) (h : k < s.size) : (L s.data.toList k)[k]? = some s[k] := by
  have h2 : k < s.data.toList.length := by rw [Array.length_toList]; exact h
  unfold L
  rw [List.getElem?_append_right (by rw [up_len]; exact List.length_take_le _ _), up_len, List.getElem?_drop, List.length_take, Nat.min_eq_left (by omega)]
  rw [show k + (k - k) = k from by omega]
  exact getD_at s k h

theorem L_set (s : ByteArray) (k : Nat) (h : k < s.size) : (L s.data.toList k).set k (upb s[k]) = L s.data.toList (k + 1) := by
  have h2 : k < s.data.toList.length := by rw [Array.length_toList]; exact h
  unfold L
  rw [up_snoc s k h, List.set_append_right _ _ (by rw [up_len]; exact List.length_take_le _ _), up_len, List.length_take, Nat.min_eq_left (by omega), Nat.sub_self, List.drop_eq_getElem_cons h2, List.set_cons_zero]
  simp

theorem L_same (s : ByteArray) (k : Nat) (h : k < s.size) (hn : upb s[k] = s[k]) : L s.data.toList (k + 1) = L s.data.toList k := by
  rw [← L_set s k h, hn]
  have := L_at s k h
  obtain ⟨h3, h4⟩ := List.getElem?_eq_some_iff.1 this
  rw [← h4, List.set_getElem_self]

set_option maxHeartbeats 1000000 in
theorem lawsUpper_any (s : ByteArray) (w : World) (hs : s.size ≤ 2147483648) :
    Calls Try.prog 13 #[.string s] w fun e w' => e = .returned (.string ⟨(up s.data.toList).toArray⟩) ∧ Below w.heap.size w w' := by
  have hq3 := fun (wx : World) (s : ByteArray) => run_bytes_of_string (P := Try.prog) wx 9 39 5 s Try.underlying9 Try.underlying39 Try.underlying5
  have hown0 := (OwnC.bytes w 5 s (grownCap w s.size 0 5) s.size w.heap.size (bv s.data.toList) rfl (grownCap_ge _ _ _ _) (grownCap_le_maxLen _ _ _ _ (by unfold maxLen; omega)) (Nat.le_refl _) rfl).drew
  go_enter Try.func13, Try.ntmps13
  go_wp2
  go_loopw [9] (fun i wr => ∃ k : Nat, k ≤ s.size ∧ i = .int .i64 k ∧ OwnC wr w.heap.size (.slice (some ⟨w.heap.size, 0, none⟩) s.size (grownCap w s.size 0 5)) (bv (L s.data.toList k)) ∧ Below w.heap.size w wr)
    (fun i _ => s.size - (intOf i).toNat)
  case atStart => exact ⟨0, by omega, rfl, by simpa [L, up] using hown0, ((Below.refl _ _).alloc (Nat.le_refl _) _).drew⟩
  case round =>
    obtain ⟨k, hk, rfl, hown, hbel⟩ := hrel
    clear hown0
    by_cases hlt : k < s.size
    · obtain ⟨hc, hf, _, _, _⟩ := own_bv hown k s[k] (L_at s k hlt)
      by_cases hlo : 97 ≤ s[k].toNat ∧ s[k].toNat ≤ 122
      · obtain ⟨h1, h2⟩ := hlo
        have h1' : (97 : Int) ≤ (s[k].toNat : Int) := by omega
        have h2' : (s[k].toNat : Int) ≤ 122 := by omega
        have hown2 := setCell_ownC hown k hlt (.int .u8 ((upb s[k]).toNat : Int))
        rw [bv_set, L_set s k hlt, upb_lo s[k] ⟨h1, h2⟩, show (65 : Int) + ((s[k].toNat : Int) - 97) = (s[k].toNat : Int) - 32 from by omega] at hown2
        clear hown
        go_wp2
        go_roundw
        case rel => exact ⟨k + 1, by omega, by go_num, hown2, hbel.setCell (Nat.le_refl _) _⟩
        case measure => simp [intOf]; omega
      · rw [← L_same s k hlt (upb_no _ hlo)] at hown
        by_cases h1 : (97 : Int) ≤ (s[k].toNat : Int)
        · have h2 : (122 : Int) < (s[k].toNat : Int) := by omega
          go_wp2
          go_roundw
          case rel => exact ⟨k + 1, by omega, by go_num, hown, hbel⟩
          case measure => simp [intOf]; omega
        · go_wp2
          go_roundw
          case rel => exact ⟨k + 1, by omega, by go_num, hown, hbel⟩
          case measure => simp [intOf]; omega
    · have hk2 : k = s.size := by omega
      have hL : L s.data.toList k = up s.data.toList := by
        unfold L
        rw [List.take_of_length_le (by rw [Array.length_toList, hk2]; exact Nat.le_refl _), List.drop_eq_nil_of_le (by rw [Array.length_toList, hk2]; exact Nat.le_refl _), List.append_nil]
      rw [hL] at hown
      have hq4 := hown.text (P := Try.prog) 39 9 5 Try.underlying39 Try.underlying5 Try.underlying9
      clear hown hL hk2
      go_wp2
      go_ret
      exact ⟨rfl, hbel⟩

end Go.Proofs.Ythndckejdalabaa.upper
