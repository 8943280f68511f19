/-
  Contracts of the reference's small readers: spec.lStarts, lBlanks, lComment, lDotted, Prefix, Escape. No statement of the seat is proved here.
-/
import Derived.Test.YtngofbhlhcalpaaDoorLitP
import Derived.Deep.LoopGhost
import Derived.Deep.QuietTactic
import Derived.BigQuiet
namespace Go.Proofs.YtngofbhlhcalpaaDoor.quo
open Go.RowKit Go.Proofs.YtngofbhlhcalpaaDoor.gen

theorem sf_ext (s : ByteArray) (k n : Nat) : (s.extract k (k + n)).toList = (sf s k).take n := by
  rw [ByteArray.toList_eq, ByteArray.data_extract, Array.toList_extract, List.extract_eq_take_drop, Nat.add_sub_cancel_left]
  rfl

set_option maxRecDepth 100000 in
theorem starts_any (s p : ByteArray) (k : Nat) (b : Bool) (w : World) (hs : s.size ≤ 1099511627776) (hp : p.size ≤ 1099511627776) (hk : k ≤ s.size) (hb : p.data.toList.isPrefixOf (sf s k) = b) :
    Calls Tryd.prog 25 #[.string s, .int .i64 (k : Int), .string p] w fun e w' => e = .returned (.bool b) ∧ w = w' := by
  have hpl := len_list p
  have hsl := sf_len s k
  have h0 : (0 : Int) ≤ (k : Int) := by omega
  have h1 : (k : Int) ≤ (s.size : Int) := by omega
  have hw : IntKind.i64.wrap ((s.size : Int) - (k : Int)) = (s.size : Int) - (k : Int) := IntWalk.i64_in _ (by omega)
  by_cases hf : k + p.size ≤ s.size
  · have h2 : (p.size : Int) ≤ (s.size : Int) - (k : Int) := by omega
    have hw2 : IntKind.i64.wrap ((k : Int) + (p.size : Int)) = (k : Int) + (p.size : Int) := IntWalk.i64_in _ (by omega)
    have h3 : (k : Int) + (p.size : Int) ≤ (s.size : Int) := by omega
    have h4 : ((k : Int) + (p.size : Int)).toNat = k + p.size := by omega
    have h5 : (k : Int) ≤ (k : Int) + (p.size : Int) := by omega
    have he : ((s.extract k (k + p.size)).toList == p.toList) = b := by
      rw [← hb, sf_ext, ByteArray.toList_eq, ← hpl, Bool.eq_iff_iff, beq_iff_eq, List.isPrefixOf_iff_prefix, List.prefix_iff_eq_take]
      exact eq_comm
    clear hb hpl hsl
    go_enter Tryd.func25, Tryd.ntmps25
    go_wp2_with fail
    go_ret
    exact ⟨by first | rfl | simp, rfl⟩
  · have h2 : ¬ (p.size : Int) ≤ (s.size : Int) - (k : Int) := by omega
    have hbf : b = false := by
      rw [← hb]
      cases h : p.data.toList.isPrefixOf (sf s k) with
      | false => rfl
      | true =>
        have := (List.isPrefixOf_iff_prefix.1 h).length_le
        omega
    subst hbf
    clear hb hpl hsl
    go_enter Tryd.func25, Tryd.ntmps25
    go_wp2_with fail
    go_ret
    exact ⟨by first | rfl | simp, rfl⟩

/-- No blank stands there, nor a comment. -/
def Firm (s : ByteArray) (k : Nat) : Prop := k = s.size ∨ ∃ h : k < s.size, s[k]'h = 98

theorem blanks_any (s : ByteArray) (k : Nat) (w : World) (_hs : s.size ≤ 1099511627776) (h : Firm s k) : Calls Tryd.prog 16 #[.string s, .int .i64 (k : Int)] w fun e w' => e = .returned (.int .i64 (k : Int)) ∧ w = w' := by
  rcases h with rfl | ⟨hlt, hc⟩
  · go_enter Tryd.func16, Tryd.ntmps16
    go_wp2_with fail
    go_loopg [1] 1 (fun g i wr => wr = w ∧ i = .int .i64 (s.size : Int))
    case atStart => exact ⟨rfl, rfl⟩
    case round =>
      obtain ⟨rfl, rfl⟩ := hrel
      go_wp2_with fail
      go_ret
      exact ⟨rfl, rfl⟩
  · have h0 : (0 : Int) ≤ (k : Int) := by omega
    have h1 : (k : Int) < (s.size : Int) := by omega
    have hc2 : (s[k].toNat : Int) = 98 := by rw [hc]; rfl
    clear hc
    go_enter Tryd.func16, Tryd.ntmps16
    go_wp2_with fail
    go_loopg [1] 1 (fun g i wr => wr = w ∧ i = .int .i64 (k : Int))
    case atStart => exact ⟨rfl, rfl⟩
    case round =>
      obtain ⟨rfl, rfl⟩ := hrel
      go_wp2_with go_in
      go_ret
      exact ⟨rfl, rfl⟩

theorem firm_no {s : ByteArray} {k : Nat} (h : Firm s k) (c : UInt8) (t : List UInt8) (hc : c ≠ 98) : (c :: t).isPrefixOf (sf s k) = false := by
  rcases h with rfl | ⟨hlt, h⟩
  · have : sf s s.size = [] := List.eq_nil_of_length_eq_zero (by rw [sf_len]; omega)
    rw [this]; rfl
  · rw [sf_cons s k hlt, h]
    have : (c == 98) = false := beq_eq_false_iff_ne.2 hc
    simp [List.isPrefixOf, this]

theorem firm_le {s : ByteArray} {k : Nat} (h : Firm s k) : k ≤ s.size := by
  rcases h with rfl | ⟨hlt, _⟩
  · exact Nat.le_refl _
  · omega

theorem comment_any (s : ByteArray) (k : Nat) (w : World) (hs : s.size ≤ 1099511627776) (h : Firm s k) : Calls Tryd.prog 17 #[.string s, .int .i64 (k : Int)] w fun e w' => e = .returned (.int .i64 (k : Int)) ∧ w = w' := by
  have hk := firm_le h
  have H1 := Lib.hid (firm_no h 35 [] (by decide))
  have H2 := Lib.hid (firm_no h 45 [45] (by decide))
  have H3 := Lib.hid (firm_no h 47 [42] (by decide))
  clear h
  go_enter Tryd.func17, Tryd.ntmps17
  go_wp2_with fail
  refine (starts_any s ⟨#[35]⟩ k false _ hs (by decide) hk H1.out).mono ?_
  rintro e w' ⟨rfl, rfl⟩
  go_wp2_with fail
  refine (starts_any s ⟨#[45, 45]⟩ k false _ hs (by decide) hk H2.out).mono ?_
  rintro e w' ⟨rfl, rfl⟩
  go_wp2_with fail
  refine (starts_any s ⟨#[47, 42]⟩ k false _ hs (by decide) hk H3.out).mono ?_
  rintro e w' ⟨rfl, rfl⟩
  go_wp2_with fail
  go_ret
  exact ⟨rfl, rfl⟩

theorem dotted_none (w : World) : Calls Tryd.prog 18 #[.string ⟨#[]⟩] w fun e w' => e = .returned (.bool false) ∧ w = w' := by
  go_enter Tryd.func18, Tryd.ntmps18
  go_wp2_with fail
  go_ret
  exact ⟨rfl, rfl⟩
theorem dotted_bytes (w : World) : Calls Tryd.prog 18 #[.string ⟨#[60, 98, 121, 116, 101, 115, 62]⟩] w fun e w' => e = .returned (.bool false) ∧ w = w' := by
  go_enter Tryd.func18, Tryd.ntmps18
  go_wp2_with fail
  go_ret
  exact ⟨rfl, rfl⟩

/-- 'b' and a quotation mark. -/
theorem prefix_any (s : ByteArray) (q : UInt8) (hq : q = 34 ∨ q = 39) (w : World) (_hs : s.size ≤ 1099511627776) (h2 : 1 < s.size) (h0 : s[0] = 98) (h1 : s[1] = q) :
    Calls Tryd.prog 32 #[.string s, .int .i64 0] w fun e w' => e = .returned (.tuple #[.int .i64 1, .bool false, .bool true]) ∧ w = w' := by
  have g0 : (s[0].toNat : Int) = 98 := by rw [h0]; rfl
  have hd0 : (0 : Int) < (s.size : Int) := by omega
  have hd1 : (1 : Int) < (s.size : Int) := by omega
  rcases hq with rfl | rfl
  · have g1 : (s[1].toNat : Int) = 34 := by rw [h1]; rfl
    clear h0 h1
    go_enter Tryd.func32, Tryd.ntmps32
    go_wp2_with fail
    go_loopg [7, 8, 9] 2 (fun g r b i wr => wr = w ∧ r = .bool false ∧ ((g = 2 ∧ b = .bool false ∧ i = .int .i64 0) ∨ (g = 1 ∧ b = .bool true ∧ i = .int .i64 1)))
    case atStart => exact ⟨rfl, rfl, .inl ⟨rfl, rfl, rfl⟩⟩
    case round =>
      obtain ⟨rfl, rfl, ⟨hg, rfl, rfl⟩ | ⟨hg, rfl, rfl⟩⟩ := hrel
      · go_wp2_with fail
        go_roundg 1
        case measure => omega
        case rel => exact ⟨rfl, rfl, .inr ⟨rfl, rfl, rfl⟩⟩
      · go_wp2_with fail
        go_ret3
        exact ⟨rfl, rfl⟩
  · have g1 : (s[1].toNat : Int) = 39 := by rw [h1]; rfl
    clear h0 h1
    go_enter Tryd.func32, Tryd.ntmps32
    go_wp2_with fail
    go_loopg [7, 8, 9] 2 (fun g r b i wr => wr = w ∧ r = .bool false ∧ ((g = 2 ∧ b = .bool false ∧ i = .int .i64 0) ∨ (g = 1 ∧ b = .bool true ∧ i = .int .i64 1)))
    case atStart => exact ⟨rfl, rfl, .inl ⟨rfl, rfl, rfl⟩⟩
    case round =>
      obtain ⟨rfl, rfl, ⟨hg, rfl, rfl⟩ | ⟨hg, rfl, rfl⟩⟩ := hrel
      · go_wp2_with fail
        go_roundg 1
        case measure => omega
        case rel => exact ⟨rfl, rfl, .inr ⟨rfl, rfl, rfl⟩⟩
      · go_wp2_with fail
        go_ret3
        exact ⟨rfl, rfl⟩

end Go.Proofs.YtngofbhlhcalpaaDoor.quo
