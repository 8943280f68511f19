/-
  Contracts of the reference's spec.Hex and spec.Escape at the escapes of a literal of bytes. No statement of the seat is proved here.
-/
import Derived.Test.YtngofbhlhcalpaaDoorSpA
namespace Go.Proofs.YtngofbhlhcalpaaDoor.quo
open Go.RowKit Go.Proofs.YtngofbhlhcalpaaDoor.gen

set_option maxRecDepth 100000 in
set_option maxHeartbeats 1000000 in
theorem hex_any (n : Nat) (hn : n < 16) (w : World) : Calls Tryd.prog 42 #[.int .u8 (nn (hexd n))] w fun e w' => e = .returned (.int .i64 (n : Int)) ∧ w = w' := by
  have h : n = 0 ∨ n = 1 ∨ n = 2 ∨ n = 3 ∨ n = 4 ∨ n = 5 ∨ n = 6 ∨ n = 7 ∨ n = 8 ∨ n = 9 ∨ n = 10 ∨ n = 11 ∨ n = 12 ∨ n = 13 ∨ n = 14 ∨ n = 15 := by omega
  rw [nn_hexd n hn]
  rcases h with rfl | rfl | rfl | rfl | rfl | rfl | rfl | rfl | rfl | rfl | rfl | rfl | rfl | rfl | rfl | rfl
  all_goals
    simp only [Nat.reduceLT, if_true, if_false, Int.reduceAdd, Int.cast_ofNat_Int]
    go_enter Tryd.func42, Tryd.ntmps42
    go_wp2_with go_in
    go_ret
    exact ⟨rfl, rfl⟩

def fromB : ByteArray := ⟨#[97, 98, 102, 110, 114, 116, 118, 92, 63, 34, 39, 96]⟩

theorem from_at (j : Nat) (hj : j < 12) : ∃ x : Int, (∀ h, ((fromB[j]'h).toNat : Int) = x) ∧ (¬ j = 7 → (x == 92) = false) ∧ (¬ j = 9 → (x == 34) = false) ∧ (¬ j = 10 → (x == 39) = false) ∧ (x == 120) = false := by
  have key : ∀ n : Fin 12, ∃ c, fromB.data.toList[n.val]? = some c ∧ (¬ n.val = 7 → (nn c == 92) = false) ∧ (¬ n.val = 9 → (nn c == 34) = false) ∧ (¬ n.val = 10 → (nn c == 39) = false) ∧ (nn c == 120) = false := by
    intro n
    have h : n = 0 ∨ n = 1 ∨ n = 2 ∨ n = 3 ∨ n = 4 ∨ n = 5 ∨ n = 6 ∨ n = 7 ∨ n = 8 ∨ n = 9 ∨ n = 10 ∨ n = 11 := by omega
    rcases h with rfl | rfl | rfl | rfl | rfl | rfl | rfl | rfl | rfl | rfl | rfl | rfl <;> exact ⟨_, rfl, by decide, by decide, by decide, by decide⟩
  obtain ⟨c, h1, h2⟩ := key ⟨j, hj⟩
  refine ⟨nn c, fun h => ?_, h2⟩
  have h3 : j < fromB.data.toList.length := by rw [Array.length_toList]; exact h
  rw [List.getElem?_eq_getElem h3] at h1
  injection h1 with h1
  have h4 : fromB[j]'h = c := h1
  rw [h4]; rfl

def EscRes (k : Nat) (c : UInt8) (w : World) (e : Ending) (w' : World) : Prop :=
  ∃ v, e = .returned (.tuple #[v, .int .i64 (k : Int), .bool true]) ∧ OwnC w' w.heap.size v [.int .u8 (nn c)] ∧ Below w.heap.size w w'

set_option maxRecDepth 100000 in
set_option maxHeartbeats 1000000 in
theorem escape_92 (s : ByteArray) (k : Nat) (w : World) (hs : s.size ≤ 1099511627776) (h2 : k + 1 < s.size) (h1 : s[k + 1] = 92) :
    Calls Tryd.prog 41 #[.string s, .int .i64 (k : Int), .bool true] w (EscRes (k + 2) 92 w) := by
  have hk0 : (0 : Int) ≤ (k : Int) + 1 := by omega
  have hk1 : (k : Int) + 1 < (s.size : Int) := by omega
  have hk2 : ¬ (s.size : Int) ≤ (k : Int) + 1 := by omega
  have hk3 : ((k : Int) + 1).toNat = k + 1 := by omega
  have hw1 : IntKind.i64.wrap ((k : Int) + 1) = (k : Int) + 1 := IntWalk.i64_in _ (by omega)
  have hw2 : IntKind.i64.wrap ((k : Int) + 2) = (k : Int) + 2 := IntWalk.i64_in _ (by omega)
  have HO := Lib.hid (OwnC.one w (.int .u8 (nn 92)) 5 w.heap.size (Nat.le_refl _))
  have HB := Lib.hid ((Below.refl w.heap.size w).alloc (Nat.le_refl _) (.cells #[.int .u8 (nn 92)] 5))
  have g1 : (s[k + 1].toNat : Int) = 92 := by rw [h1]; rfl
  clear h1
  go_enter Tryd.func41, Tryd.ntmps41
  go_wp2_with fail
  go_loopg [10] 12 (fun g i wr => wr = w ∧ ∃ j : Nat, g = 12 - j ∧ j ≤ 7 ∧ i = .int .i64 (j : Int))
  case atStart => exact ⟨rfl, 0, rfl, by omega, rfl⟩
  case round =>
    obtain ⟨rfl, j, hg, hj, rfl⟩ := hrel
    by_cases hjm : j = 7
    · subst hjm
      go_wp2_with fail
      go_ret3
      exact ⟨_, rfl, HO.out, HB.out⟩
    · skip
      have hj0 : (0 : Int) ≤ (j : Int) := by omega
      have hj1 : (j : Int) < 12 := by omega
      have hjw : IntKind.i64.wrap ((j : Int) + 1) = (j : Int) + 1 := IntWalk.i64_in _ (by omega)
      obtain ⟨x, hx, x7, x9, x10, x120⟩ := from_at j (by omega)
      have hne := x7 hjm
      unfold fromB at hx
      clear x7 x9 x10 x120
      go_wp2_with fail
      go_roundg (12 - (j + 1))
      case measure => omega
      case rel => exact ⟨rfl, j + 1, rfl, by omega, by go_num⟩
set_option maxRecDepth 100000 in
set_option maxHeartbeats 1000000 in
theorem escape_34 (s : ByteArray) (k : Nat) (w : World) (hs : s.size ≤ 1099511627776) (h2 : k + 1 < s.size) (h1 : s[k + 1] = 34) :
    Calls Tryd.prog 41 #[.string s, .int .i64 (k : Int), .bool true] w (EscRes (k + 2) 34 w) := by
  have hk0 : (0 : Int) ≤ (k : Int) + 1 := by omega
  have hk1 : (k : Int) + 1 < (s.size : Int) := by omega
  have hk2 : ¬ (s.size : Int) ≤ (k : Int) + 1 := by omega
  have hk3 : ((k : Int) + 1).toNat = k + 1 := by omega
  have hw1 : IntKind.i64.wrap ((k : Int) + 1) = (k : Int) + 1 := IntWalk.i64_in _ (by omega)
  have hw2 : IntKind.i64.wrap ((k : Int) + 2) = (k : Int) + 2 := IntWalk.i64_in _ (by omega)
  have HO := Lib.hid (OwnC.one w (.int .u8 (nn 34)) 5 w.heap.size (Nat.le_refl _))
  have HB := Lib.hid ((Below.refl w.heap.size w).alloc (Nat.le_refl _) (.cells #[.int .u8 (nn 34)] 5))
  have g1 : (s[k + 1].toNat : Int) = 34 := by rw [h1]; rfl
  clear h1
  go_enter Tryd.func41, Tryd.ntmps41
  go_wp2_with fail
  go_loopg [10] 12 (fun g i wr => wr = w ∧ ∃ j : Nat, g = 12 - j ∧ j ≤ 9 ∧ i = .int .i64 (j : Int))
  case atStart => exact ⟨rfl, 0, rfl, by omega, rfl⟩
  case round =>
    obtain ⟨rfl, j, hg, hj, rfl⟩ := hrel
    by_cases hjm : j = 9
    · subst hjm
      go_wp2_with fail
      go_ret3
      exact ⟨_, rfl, HO.out, HB.out⟩
    · skip
      have hj0 : (0 : Int) ≤ (j : Int) := by omega
      have hj1 : (j : Int) < 12 := by omega
      have hjw : IntKind.i64.wrap ((j : Int) + 1) = (j : Int) + 1 := IntWalk.i64_in _ (by omega)
      obtain ⟨x, hx, x7, x9, x10, x120⟩ := from_at j (by omega)
      have hne := x9 hjm
      unfold fromB at hx
      clear x7 x9 x10 x120
      go_wp2_with fail
      go_roundg (12 - (j + 1))
      case measure => omega
      case rel => exact ⟨rfl, j + 1, rfl, by omega, by go_num⟩
set_option maxRecDepth 100000 in
set_option maxHeartbeats 1000000 in
theorem escape_39 (s : ByteArray) (k : Nat) (w : World) (hs : s.size ≤ 1099511627776) (h2 : k + 1 < s.size) (h1 : s[k + 1] = 39) :
    Calls Tryd.prog 41 #[.string s, .int .i64 (k : Int), .bool true] w (EscRes (k + 2) 39 w) := by
  have hk0 : (0 : Int) ≤ (k : Int) + 1 := by omega
  have hk1 : (k : Int) + 1 < (s.size : Int) := by omega
  have hk2 : ¬ (s.size : Int) ≤ (k : Int) + 1 := by omega
  have hk3 : ((k : Int) + 1).toNat = k + 1 := by omega
  have hw1 : IntKind.i64.wrap ((k : Int) + 1) = (k : Int) + 1 := IntWalk.i64_in _ (by omega)
  have hw2 : IntKind.i64.wrap ((k : Int) + 2) = (k : Int) + 2 := IntWalk.i64_in _ (by omega)
  have HO := Lib.hid (OwnC.one w (.int .u8 (nn 39)) 5 w.heap.size (Nat.le_refl _))
  have HB := Lib.hid ((Below.refl w.heap.size w).alloc (Nat.le_refl _) (.cells #[.int .u8 (nn 39)] 5))
  have g1 : (s[k + 1].toNat : Int) = 39 := by rw [h1]; rfl
  clear h1
  go_enter Tryd.func41, Tryd.ntmps41
  go_wp2_with fail
  go_loopg [10] 12 (fun g i wr => wr = w ∧ ∃ j : Nat, g = 12 - j ∧ j ≤ 10 ∧ i = .int .i64 (j : Int))
  case atStart => exact ⟨rfl, 0, rfl, by omega, rfl⟩
  case round =>
    obtain ⟨rfl, j, hg, hj, rfl⟩ := hrel
    by_cases hjm : j = 10
    · subst hjm
      go_wp2_with fail
      go_ret3
      exact ⟨_, rfl, HO.out, HB.out⟩
    · skip
      have hj0 : (0 : Int) ≤ (j : Int) := by omega
      have hj1 : (j : Int) < 12 := by omega
      have hjw : IntKind.i64.wrap ((j : Int) + 1) = (j : Int) + 1 := IntWalk.i64_in _ (by omega)
      obtain ⟨x, hx, x7, x9, x10, x120⟩ := from_at j (by omega)
      have hne := x10 hjm
      unfold fromB at hx
      clear x7 x9 x10 x120
      go_wp2_with fail
      go_roundg (12 - (j + 1))
      case measure => omega
      case rel => exact ⟨rfl, j + 1, rfl, by omega, by go_num⟩

theorem escape_self (s : ByteArray) (k : Nat) (c : UInt8) (hc : c = 34 ∨ c = 39 ∨ c = 92) (w : World) (hs : s.size ≤ 1099511627776) (h2 : k + 1 < s.size) (h1 : s[k + 1] = c) :
    Calls Tryd.prog 41 #[.string s, .int .i64 (k : Int), .bool true] w (EscRes (k + 2) c w) := by
  rcases hc with rfl | rfl | rfl
  · exact escape_34 s k w hs h2 h1
  · exact escape_39 s k w hs h2 h1
  · exact escape_92 s k w hs h2 h1

set_option maxRecDepth 100000 in
set_option maxHeartbeats 2000000 in
theorem escape_hex (s : ByteArray) (k a b : Nat) (c : UInt8) (ha : a < 16) (hb : b < 16) (hc : c.toNat = 16 * a + b) (w : World) (hs : s.size ≤ 1099511627776) (h4 : k + 3 < s.size) (h1 : s[k + 1] = 120) (h2 : s[k + 2] = hexd a) (h3 : s[k + 3] = hexd b) :
    Calls Tryd.prog 41 #[.string s, .int .i64 (k : Int), .bool true] w (EscRes (k + 4) c w) := by
  have hk0 : (0 : Int) ≤ (k : Int) + 1 := by omega
  have hk1 : (k : Int) + 1 < (s.size : Int) := by omega
  have hk2 : ¬ (s.size : Int) ≤ (k : Int) + 1 := by omega
  have hk3 : ((k : Int) + 1).toNat = k + 1 := by omega
  have hk4 : (0 : Int) ≤ (k : Int) + 2 := by omega
  have hk5 : (k : Int) + 2 < (s.size : Int) := by omega
  have hk6 : ((k : Int) + 2).toNat = k + 2 := by omega
  have hk7 : (0 : Int) ≤ (k : Int) + 3 := by omega
  have hk8 : (k : Int) + 3 < (s.size : Int) := by omega
  have hk9 : ((k : Int) + 3).toNat = k + 3 := by omega
  have hw1 : IntKind.i64.wrap ((k : Int) + 1) = (k : Int) + 1 := IntWalk.i64_in _ (by omega)
  have hw2 : IntKind.i64.wrap ((k : Int) + 2) = (k : Int) + 2 := IntWalk.i64_in _ (by omega)
  have hw4 : IntKind.i64.wrap ((k : Int) + 4) = (k : Int) + 4 := IntWalk.i64_in _ (by omega)
  have HO := Lib.hid (OwnC.one w (.int .u8 (nn c)) 5 w.heap.size (Nat.le_refl _))
  have HB := Lib.hid ((Below.refl w.heap.size w).alloc (Nat.le_refl _) (.cells #[.int .u8 (nn c)] 5))
  have g1 : (s[k + 1].toNat : Int) = 120 := by rw [h1]; rfl
  have g2 : (s[k + 2].toNat : Int) = nn (hexd a) := by rw [h2]; rfl
  have g3 : (s[k + 3].toNat : Int) = nn (hexd b) := by rw [h3]; rfl
  have HC := Lib.hid hc
  have hw22 : IntKind.i64.wrap ((k : Int) + 2 + 2) = (k : Int) + 4 := by rw [show (k : Int) + 2 + 2 = (k : Int) + 4 from by omega]; exact hw4
  have hw23 : IntKind.i64.wrap ((k : Int) + 2 + 1) = (k : Int) + 3 := by rw [show (k : Int) + 2 + 1 = (k : Int) + 3 from by omega]; exact IntWalk.i64_in _ (by omega)
  have hw34 : IntKind.i64.wrap ((k : Int) + 3 + 1) = (k : Int) + 4 := by rw [show (k : Int) + 3 + 1 = (k : Int) + 4 from by omega]; exact hw4
  have hwa : IntKind.i64.wrap (a : Int) = (a : Int) := IntWalk.i64_in _ (by omega)
  have hwa2 : IntKind.i64.wrap (16 * (a : Int)) = 16 * (a : Int) := IntWalk.i64_in _ (by omega)
  have hwb : IntKind.i64.wrap (16 * (a : Int) + (b : Int)) = 16 * (a : Int) + (b : Int) := IntWalk.i64_in _ (by omega)
  clear h1 h2 h3 hc
  go_enter Tryd.func41, Tryd.ntmps41
  go_wp2_with fail
  go_loopg [10] 12 (fun g i wr => wr = w ∧ ∃ j : Nat, g = 12 - j ∧ j ≤ 12 ∧ i = .int .i64 (j : Int))
  case atStart => exact ⟨rfl, 0, rfl, by omega, rfl⟩
  case round =>
    obtain ⟨rfl, j, hg, hj, rfl⟩ := hrel
    by_cases hjm : j = 12
    · subst hjm
      go_wp2_with fail
      go_loopg [11, 14] 2 (fun g n i w2 => w2 = wr ∧ ((g = 2 ∧ n = .int .i64 0 ∧ i = .int .i64 ((k : Int) + 2)) ∨ (g = 1 ∧ n = .int .i64 (a : Int) ∧ i = .int .i64 ((k : Int) + 3)) ∨ (g = 0 ∧ n = .int .i64 (16 * (a : Int) + (b : Int)) ∧ i = .int .i64 ((k : Int) + 4))))
      case atStart => exact ⟨rfl, .inl ⟨rfl, rfl, rfl⟩⟩
      case round =>
        obtain ⟨rfl, ⟨hg, rfl, rfl⟩ | ⟨hg, rfl, rfl⟩ | ⟨hg, rfl, rfl⟩⟩ := hrel
        · have l1 : (k : Int) + 2 < (k : Int) + 4 := by omega
          have n1 : ¬ (a : Int) < 0 := by omega
          go_wp2_with (go_at_call 42; refine (hex_any a ha _).mono ?_; rintro e w' ⟨rfl, rfl⟩)
          go_roundg 1
          case measure => omega
          case rel => exact ⟨rfl, .inr (.inl ⟨rfl, rfl, by first | rfl | simp; omega⟩)⟩
        · have l1 : (k : Int) + 3 < (k : Int) + 4 := by omega
          have n1 : ¬ (b : Int) < 0 := by omega
          go_wp2_with (go_at_call 42; refine (hex_any b hb _).mono ?_; rintro e w' ⟨rfl, rfl⟩)
          go_roundg 0
          case measure => omega
          case rel => exact ⟨rfl, .inr (.inr ⟨rfl, rfl, by first | rfl | simp; omega⟩)⟩
        · have l1 : ¬ (k : Int) + 4 < (k : Int) + 4 := by omega
          have hwc : IntKind.u8.wrap (16 * (a : Int) + (b : Int)) = nn c := by rw [IntKind.wrap_u8]; unfold nn; have := HC.out; omega
          go_wp2_with fail
          go_ret3
          exact ⟨_, rfl, HO.out, HB.out⟩
    · skip
      have hj0 : (0 : Int) ≤ (j : Int) := by omega
      have hj1 : (j : Int) < 12 := by omega
      have hjw : IntKind.i64.wrap ((j : Int) + 1) = (j : Int) + 1 := IntWalk.i64_in _ (by omega)
      obtain ⟨x, hx, x7, x9, x10, x120⟩ := from_at j (by omega)
      have hne := x120
      unfold fromB at hx
      clear x7 x9 x10 x120
      go_wp2_with fail
      go_roundg (12 - (j + 1))
      case measure => omega
      case rel => exact ⟨rfl, j + 1, rfl, by omega, by go_num⟩

end Go.Proofs.YtngofbhlhcalpaaDoor.quo
