/-
  Contracts of char.ToUpper, token.ZzKeyword, token.IsKeyword, impl.IsKeyword. No statement of the seat is proved here.
-/
import Derived.Test.YthndckejdalabaaGen
import Derived.Outline
namespace Go.Proofs.Ythndckejdalabaa.upper
open Go.RowKit Go.Proofs.Ythndckejdalabaa.gen

def upb (c : UInt8) : UInt8 := if 97 ≤ c.toNat ∧ c.toNat ≤ 122 then c - 32 else c
def up (l : List UInt8) : List UInt8 := l.map upb
def bv (l : List UInt8) : List Value := l.map fun b => .int .u8 (b.toNat : Int)

theorem bv_len (l : List UInt8) : (bv l).length = l.length := by simp [bv]
theorem up_len (l : List UInt8) : (up l).length = l.length := by simp [up]
theorem upb_lo (c : UInt8) (h : 97 ≤ c.toNat ∧ c.toNat ≤ 122) : ((upb c).toNat : Int) = 65 + ((c.toNat : Int) - 97) := by
  unfold upb; rw [if_pos h, UInt8.toNat_sub_of_le c 32 (by rw [UInt8.le_iff_toNat_le]; show 32 ≤ c.toNat; omega)]
  show ((c.toNat - 32 : Nat) : Int) = _
  omega
theorem upb_no (c : UInt8) (h : ¬ (97 ≤ c.toNat ∧ c.toNat ≤ 122)) : upb c = c := by unfold upb; rw [if_neg h]

theorem take_snoc (s : ByteArray) (k : Nat) (h : k < s.size) : s.data.toList.take (k + 1) = s.data.toList.take k ++ [s[k]] := by
  have h2 : k < s.data.toList.length := by rw [Array.length_toList]; exact h
  rw [List.take_succ_eq_append_getElem h2]; rfl
theorem up_snoc (s : ByteArray) (k : Nat) (h : k < s.size) : up (s.data.toList.take (k + 1)) = up (s.data.toList.take k) ++ [upb s[k]] := by
  rw [take_snoc s k h]; simp [up]

theorem info5 : (Try.prog.info? 5).map (fun i => (i.zero, i.size, i.bytes)) = some (some (.int .u8 0), 1, 1) := by kernel_rfl

def St (base : Nat) (l : List UInt8) (k : Nat) (v : Value) (wr : World) : Prop :=
  (v = .slice none 0 0 ∧ up (l.take k) = l.take k) ∨ (OwnC wr base v (bv (up (l.take k))) ∧ ∃ g cap, v = .slice (some ⟨g, 0, none⟩) k cap)

theorem bv_ext (s : ByteArray) (k : Nat) (h : up (s.data.toList.take k) = s.data.toList.take k) : bv (up (s.data.toList.take k)) = (s.extract 0 k).data.toList.map fun b => .int .u8 (b.toNat : Int) := by
  rw [h, ByteArray.data_extract, Array.toList_extract]
  simp [bv]

theorem St.snoc (s : ByteArray) (k : Nat) (hlt : k < s.size) {w1 : World} {base g cap : Nat} {x : Int} (h : OwnC w1 base (.slice (some ⟨g, 0, none⟩) (k + 1) cap) (bv (up (s.data.toList.take k)) ++ [.int .u8 x])) (hx : x = ((upb s[k]).toNat : Int)) :
    OwnC w1 base (.slice (some ⟨g, 0, none⟩) (k + 1) cap) (bv (up (s.data.toList.take (k + 1)))) ∧ ∃ g' cap', (Value.slice (some ⟨g, 0, none⟩) (k + 1) cap) = .slice (some ⟨g', 0, none⟩) (k + 1) cap' := by
  refine ⟨?_, g, cap, rfl⟩
  rw [up_snoc s k hlt]
  subst hx
  simpa [bv] using h

set_option maxHeartbeats 1000000 in
theorem toUpper_any (s : ByteArray) (w : World) (hs : s.size ≤ 2147483648) :
    Calls Try.prog 25 #[.string s] w fun e w' => e = .returned (.string ⟨(up s.data.toList).toArray⟩) ∧ Below w.heap.size w w' := by
  obtain ⟨i0, hi, hz0, hz1, hz2⟩ := info_parts info5
  have hq1 := fun (wx : World) (a : Option Addr) (n c n' c' : Nat) => run_eq_nil (P := Try.prog) wx 39 5 a n c n' c' Try.underlying39
  have hq2 := fun (wx : World) (a : Option Addr) (n c n' c' : Nat) => run_neq_slice_nil_any (P := Try.prog) wx 39 5 a n c n' c' Try.underlying39
  have hq3 := fun (wx : World) (s : ByteArray) => run_bytes_of_string (P := Try.prog) wx 9 39 5 s Try.underlying9 Try.underlying39 Try.underlying5
  go_enter Try.func25, Try.ntmps25
  go_wp2
  go_loopw [3, 4] (fun v i wr => ∃ k : Nat, k ≤ s.size ∧ i = .int .i64 k ∧ St w.heap.size s.data.toList k v wr ∧ Below w.heap.size w wr)
    (fun _ i _ => s.size - (intOf i).toNat)
  case atStart => exact ⟨0, by omega, rfl, .inl ⟨rfl, rfl⟩, Below.refl _ _⟩
  case round =>
    obtain ⟨k, hk, rfl, hst, hbel⟩ := hrel
    by_cases hlt : k < s.size
    · rcases hst with ⟨rfl, hup⟩ | ⟨hown, g, cap, rfl⟩
      · by_cases hlo : 97 ≤ s[k].toNat ∧ s[k].toNat ≤ 122
        · obtain ⟨h1, h2⟩ := hlo
          have h1' : (97 : Int) ≤ (s[k].toNat : Int) := by omega
          have h2' : (s[k].toNat : Int) ≤ 122 := by omega
          have hup' := Lib.hid hup
          clear hup
          go_wp2_with (at_builtin; refine wpList_append_ownC _ rfl (.tmp 27) (.tmp 31) 39 rfl w.heap.size 5 i0 (.int .u8 0) 1 Try.underlying39 hi hz0 hz1 hz2 rfl _ k (bv (up (s.data.toList.take k))) rfl ?c0a ?c1a ⟨wr.heap.size + 1, 0, none⟩ 1 1 [.int .u8 (65 + ((s[k].toNat : Int) - 97))] rfl rfl (by decide) ?c2a (one_int _ _) ?c4a ?c5a ?c6a ?_)
          case c0a => rw [bv_len, up_len]; simp; omega
          case c1a => exact ((OwnC.bytes wr _ (s.extract 0 k) _ k _ _ (by simp; omega) (grownCap_ge _ _ _ _) (grownCap_le_maxLen _ _ _ _ (by unfold maxLen; omega)) hbel.size (bv_ext s k hup'.out)).alloc _).drew
          case c2a => exact fun j u hj => by rw [World.cell?_drew]; exact cell_one_at _ _ _ _ (by simp) j u hj
          case c4a => unfold maxLen; omega
          case c5a => omega
          case c6a => have := hbel.size; simp; omega
          intro g' cap' w1 hown hgrow
          have hown2 := St.snoc s k hlt hown (upb_lo s[k] ⟨h1, h2⟩).symm
          have hbel2 : Below w.heap.size w w1 := by
            refine (((hbel.alloc hbel.size _).alloc (by have := hbel.size; simp; omega) _).drew).grown hgrow (by have := hbel.size; simp; omega) ?_
            intro r hr
            simp [Value.ownBlock] at hr
            subst hr; exact hbel.size
          clear hown hgrow hbel
          go_wp2
          go_roundw
          case rel => exact ⟨k + 1, by omega, by go_num, .inr hown2, hbel2⟩
          case measure => simp [intOf]; omega
        · have hup2 : up (s.data.toList.take (k + 1)) = s.data.toList.take (k + 1) := by
            rw [up_snoc s k hlt, hup, upb_no _ hlo, take_snoc s k hlt]
          have hup' := Lib.hid hup2
          clear hup hup2
          by_cases h1 : (97 : Int) ≤ (s[k].toNat : Int)
          · have h2 : (122 : Int) < (s[k].toNat : Int) := by omega
            go_wp2
            go_roundw
            case rel => exact ⟨k + 1, by omega, by go_num, .inl ⟨rfl, hup'⟩, hbel⟩
            case measure => simp [intOf]; omega
          · go_wp2
            go_roundw
            case rel => exact ⟨k + 1, by omega, by go_num, .inl ⟨rfl, hup'⟩, hbel⟩
            case measure => simp [intOf]; omega
      · by_cases hlo : 97 ≤ s[k].toNat ∧ s[k].toNat ≤ 122
        · obtain ⟨h1, h2⟩ := hlo
          have h1' : (97 : Int) ≤ (s[k].toNat : Int) := by omega
          have h2' : (s[k].toNat : Int) ≤ 122 := by omega
          go_wp2_with (at_builtin; refine wpList_append_ownC _ rfl (.tmp 27) (.tmp 31) 39 rfl w.heap.size 5 i0 (.int .u8 0) 1 Try.underlying39 hi hz0 hz1 hz2 rfl _ k (bv (up (s.data.toList.take k))) rfl ?c0b ?c1b ⟨wr.heap.size, 0, none⟩ 1 1 [.int .u8 (65 + ((s[k].toNat : Int) - 97))] rfl rfl (by decide) (cell_one_at _ _ _ _ rfl) (one_int _ _) ?c4b ?c5b ?c6b ?_)
          case c0b => rw [bv_len, up_len]; simp; omega
          case c1b => exact hown.alloc _
          case c4b => unfold maxLen; omega
          case c5b => omega
          case c6b => have := hbel.size; simp; omega
          intro g' cap' w1 hown1 hgrow
          have hown2 := St.snoc s k hlt hown1 (upb_lo s[k] ⟨h1, h2⟩).symm
          have hbel2 : Below w.heap.size w w1 := (hbel.alloc hbel.size _).grown hgrow (by have := hbel.size; simp; omega) fun r hr => (hown.lt r hr).1
          clear hown1 hown hgrow hbel
          go_wp2
          go_roundw
          case rel => exact ⟨k + 1, by omega, by go_num, .inr hown2, hbel2⟩
          case measure => simp [intOf]; omega
        · by_cases h1 : (97 : Int) ≤ (s[k].toNat : Int)
          · have h2 : (122 : Int) < (s[k].toNat : Int) := by omega
            go_wp2_with (at_builtin; refine wpList_append_ownC _ rfl (.tmp 35) (.tmp 37) 39 rfl w.heap.size 5 i0 (.int .u8 0) 1 Try.underlying39 hi hz0 hz1 hz2 rfl _ k (bv (up (s.data.toList.take k))) rfl ?c0c ?c1c ⟨wr.heap.size, 0, none⟩ 1 1 [.int .u8 (s[k].toNat : Int)] rfl rfl (by decide) (cell_one_at _ _ _ _ rfl) (one_int _ _) ?c4c ?c5c ?c6c ?_)
            case c0c => rw [bv_len, up_len]; simp; omega
            case c1c => exact hown.alloc _
            case c4c => unfold maxLen; omega
            case c5c => omega
            case c6c => have := hbel.size; simp; omega
            intro g' cap' w1 hown1 hgrow
            have hown2 := St.snoc s k hlt hown1 (congrArg (fun c : UInt8 => (c.toNat : Int)) (upb_no _ hlo)).symm
            have hbel2 : Below w.heap.size w w1 := (hbel.alloc hbel.size _).grown hgrow (by have := hbel.size; simp; omega) fun r hr => (hown.lt r hr).1
            clear hown1 hown hgrow hbel
            go_wp2
            go_roundw
            case rel => exact ⟨k + 1, by omega, by go_num, .inr hown2, hbel2⟩
            case measure => simp [intOf]; omega
          · go_wp2_with (at_builtin; refine wpList_append_ownC _ rfl (.tmp 35) (.tmp 37) 39 rfl w.heap.size 5 i0 (.int .u8 0) 1 Try.underlying39 hi hz0 hz1 hz2 rfl _ k (bv (up (s.data.toList.take k))) rfl ?c0d ?c1d ⟨wr.heap.size, 0, none⟩ 1 1 [.int .u8 (s[k].toNat : Int)] rfl rfl (by decide) (cell_one_at _ _ _ _ rfl) (one_int _ _) ?c4d ?c5d ?c6d ?_)
            case c0d => rw [bv_len, up_len]; simp; omega
            case c1d => exact hown.alloc _
            case c4d => unfold maxLen; omega
            case c5d => omega
            case c6d => have := hbel.size; simp; omega
            intro g' cap' w1 hown1 hgrow
            have hown2 := St.snoc s k hlt hown1 (congrArg (fun c : UInt8 => (c.toNat : Int)) (upb_no _ hlo)).symm
            have hbel2 : Below w.heap.size w w1 := (hbel.alloc hbel.size _).grown hgrow (by have := hbel.size; simp; omega) fun r hr => (hown.lt r hr).1
            clear hown1 hown hgrow hbel
            go_wp2
            go_roundw
            case rel => exact ⟨k + 1, by omega, by go_num, .inr hown2, hbel2⟩
            case measure => simp [intOf]; omega
    · have hk2 : k = s.size := by omega
      have hall : s.data.toList.take k = s.data.toList := List.take_of_length_le (by rw [Array.length_toList, hk2]; exact Nat.le_refl _)
      rcases hst with ⟨rfl, hup⟩ | ⟨hown, g, cap, rfl⟩
      · rw [hall] at hup
        have hup' := Lib.hid hup
        clear hup hall
        go_wp2
        go_ret
        exact ⟨ret_str (by rw [hup'.out]), hbel⟩
      · rw [hall] at hown
        have hq4 := hown.text (P := Try.prog) 39 9 5 Try.underlying39 Try.underlying5 Try.underlying9
        clear hown hall hk2
        go_wp2
        go_ret
        exact ⟨rfl, hbel⟩

end Go.Proofs.Ythndckejdalabaa.upper
