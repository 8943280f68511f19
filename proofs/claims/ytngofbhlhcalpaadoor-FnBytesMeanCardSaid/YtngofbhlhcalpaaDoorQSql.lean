/-
  Contract of token.QuoteSQLBytes: the literal of bytes. No statement of the seat is proved here.
-/
import Derived.Test.YtngofbhlhcalpaaDoorHexD
import Derived.Test.YtngofbhlhcalpaaDoorShelf
namespace Go.Proofs.YtngofbhlhcalpaaDoor.quo
open Go.RowKit Go.Proofs.YtngofbhlhcalpaaDoor.gen

/-- Bytes that came in. -/
def BytesAt (w : World) (v : Value) (l : List UInt8) : Prop :=
  (l = [] ∧ ∃ ao cap, v = .slice ao 0 cap) ∨
  ∃ b off cap, v = .slice (some ⟨b, off, none⟩) l.length cap ∧ b < w.heap.size ∧ ∀ j, (hj : j < l.length) → w.cell? ⟨b, off + j, none⟩ = some (.int .u8 (nn (l[j]'hj)))

theorem BytesAt.below {w w' : World} {v : Value} {l : List UInt8} (h : BytesAt w v l) (hb : Below w.heap.size w w') : BytesAt w' v l := by
  rcases h with h | ⟨b, off, cap, h1, h2, h3⟩
  · exact .inl h
  · exact .inr ⟨b, off, cap, h1, Nat.lt_of_lt_of_le h2 hb.size, fun j hj => (hb.cell h2).trans (h3 j hj)⟩

def hasB (c : UInt8) (l : List UInt8) : Bool := l.any (fun d => d == c)
def qOf (l : List UInt8) : UInt8 := if hasB 39 l = false ∧ hasB 34 l = true then 39 else 34
theorem qOf_cases (l : List UInt8) : qOf l = 34 ∨ qOf l = 39 := by unfold qOf; split; exact .inr rfl; exact .inl rfl

theorem hasB_take (c : UInt8) (l : List UInt8) (k : Nat) (h : k < l.length) : hasB c (l.take (k + 1)) = (hasB c (l.take k) || (l[k] == c)) := by
  unfold hasB
  rw [List.take_add_one, List.getElem?_eq_getElem h, List.any_append]
  simp

def QRes (l : List UInt8) (w : World) (e : Ending) (w' : World) : Prop := e = .returned (.int .i32 (nn (qOf l))) ∧ w = w'

set_option maxRecDepth 100000 in
theorem suitable_any (v : Value) (l : List UInt8) (w : World) (hl : l.length ≤ 2147483647) (h : BytesAt w v l) : Calls Tryd.prog 8 #[v] w (QRes l w) := by
  rcases h with ⟨rfl, ao, cap, rfl⟩ | ⟨b, off, cap, rfl, hb, hc⟩
  · go_enter Tryd.func8, Tryd.ntmps8
    go_wp2_with fail
    go_loopg [3, 4, 9] 1 (fun g x y i wr => wr = w ∧ x = .bool false ∧ y = .bool false ∧ i = .int .i64 0)
    case atStart => exact ⟨rfl, rfl, rfl, rfl⟩
    case round =>
      obtain ⟨rfl, rfl, rfl, rfl⟩ := hrel
      go_wp2_with fail
      go_ret
      exact ⟨rfl, rfl⟩
  · obtain ⟨n, hn⟩ : ∃ n, n = l.length := ⟨_, rfl⟩
    rw [← hn]
    have HN := Lib.hid hn
    have HC := Lib.hid hc
    have hn2 : n ≤ 2147483647 := by omega
    clear hn hc
    go_enter Tryd.func8, Tryd.ntmps8
    go_wp2_with fail
    go_loopg [3, 4, 9] n (fun g x y i wr => wr = w ∧ ∃ k : Nat, g = n - k ∧ k ≤ n ∧ x = .bool (hasB 39 (l.take k)) ∧ y = .bool (hasB 34 (l.take k)) ∧ i = .int .i64 (k : Int))
    case atStart => exact ⟨rfl, 0, rfl, Nat.zero_le _, rfl, rfl, rfl⟩
    case round =>
      obtain ⟨rfl, k, hg, hk, rfl, rfl, rfl⟩ := hrel
      have hkw : IntKind.i64.wrap ((k : Int) + 1) = (k : Int) + 1 := IntWalk.i64_in _ (by omega)
      by_cases hlt : k < n
      · have hkl : k < l.length := by have := HN.out; omega
        have e39 := hasB_take 39 l k hkl
        have e34 := hasB_take 34 l k hkl
        have hcell := HC.out k hkl
        have hi0 : (0 : Int) ≤ (k : Int) := by omega
        have hi1 : (k : Int) < (n : Int) := by omega
        obtain ⟨c, hce⟩ : ∃ c, l[k]'hkl = c := ⟨_, rfl⟩
        rw [hce] at e39 e34 hcell
        by_cases h39 : c = 39
        · subst h39
          have E39 : Hid (hasB 39 (l.take (k + 1)) = true) := by show hasB 39 (l.take (k + 1)) = true; rw [e39]; simp
          have E34 : Hid (hasB 34 (l.take (k + 1)) = hasB 34 (l.take k)) := by show hasB 34 (l.take (k + 1)) = _; rw [e34]; simp
          have e39v : nn 39 = 39 := rfl
          rw [e39v] at hcell
          clear e39 e34 hce
          go_wp2_with fail
          go_roundg (n - (k + 1))
          case measure => omega
          case rel => exact ⟨rfl, k + 1, rfl, by omega, by rw [E39.out], by rw [E34.out], by go_num⟩
        · by_cases h34 : c = 34
          · subst h34
            have E39 : Hid (hasB 39 (l.take (k + 1)) = hasB 39 (l.take k)) := by show hasB 39 (l.take (k + 1)) = _; rw [e39]; simp
            have E34 : Hid (hasB 34 (l.take (k + 1)) = true) := by show hasB 34 (l.take (k + 1)) = true; rw [e34]; simp
            have e34v : nn 34 = 34 := rfl
            rw [e34v] at hcell
            clear e39 e34 hce
            go_wp2_with fail
            go_roundg (n - (k + 1))
            case measure => omega
            case rel => exact ⟨rfl, k + 1, rfl, by omega, by rw [E39.out], by rw [E34.out], by go_num⟩
          · have E39 : Hid (hasB 39 (l.take (k + 1)) = hasB 39 (l.take k)) := by
              show hasB 39 (l.take (k + 1)) = _
              rw [e39, show (c == 39) = false from beq_eq_false_iff_ne.2 h39, Bool.or_false]
            have E34 : Hid (hasB 34 (l.take (k + 1)) = hasB 34 (l.take k)) := by
              show hasB 34 (l.take (k + 1)) = _
              rw [e34, show (c == 34) = false from beq_eq_false_iff_ne.2 h34, Bool.or_false]
            have n39 : (nn c == 39) = false := beq_eq_false_iff_ne.2 fun e => h39 (nn_inj e)
            have n34 : (nn c == 34) = false := beq_eq_false_iff_ne.2 fun e => h34 (nn_inj e)
            clear e39 e34 hce h39 h34
            go_wp2_with fail
            go_roundg (n - (k + 1))
            case measure => omega
            case rel => exact ⟨rfl, k + 1, rfl, by omega, by rw [E39.out], by rw [E34.out], by go_num⟩
      · obtain rfl : k = n := by omega
        have ht : l.take k = l := List.take_of_length_le (by have := HN.out; omega)
        rw [ht]
        cases h1 : hasB 39 l with
        | true =>
          have hq : Hid (qOf l = 34) := by show qOf l = 34; unfold qOf; rw [h1]; simp
          clear h1
          go_wp2_with fail
          go_ret
          exact ⟨by (rw [hq.out]; rfl), rfl⟩
        | false =>
          cases h2 : hasB 34 l with
          | true =>
            have hq : Hid (qOf l = 39) := by show qOf l = 39; unfold qOf; rw [h1, h2]; simp
            clear h1 h2
            go_wp2_with fail
            go_ret
            exact ⟨by (rw [hq.out]; rfl), rfl⟩
          | false =>
            have hq : Hid (qOf l = 34) := by show qOf l = 34; unfold qOf; rw [h1, h2]; simp
            clear h1 h2
            go_wp2_with fail
            go_ret
            exact ⟨by (rw [hq.out]; rfl), rfl⟩

/-- What stands for a byte that is escaped by a backslash. -/
def sq (q c : UInt8) : List UInt8 := if c = q then [92, c] else if c = 92 then [92, 92] else []

set_option maxRecDepth 100000 in
theorem single_any (q c : UInt8) (hq : q = 34 ∨ q = 39) (w : World) : Calls Tryd.prog 11 #[.int .i32 (nn c), .int .i32 (nn q), .bool false] w fun e w' => e = .returned (.string ⟨(sq q c).toArray⟩) ∧ w = w' := by
  by_cases h1 : c = q
  · subst h1
    rcases hq with rfl | rfl
    · rw [show nn 34 = 34 from rfl]
      go_enter Tryd.func11, Tryd.ntmps11
      go_wp2_with fail
      go_ret
      exact ⟨rfl, rfl⟩
    · rw [show nn 39 = 39 from rfl]
      go_enter Tryd.func11, Tryd.ntmps11
      go_wp2_with fail
      go_ret
      exact ⟨rfl, rfl⟩
  · have n1 : (nn c == nn q) = false := beq_eq_false_iff_ne.2 fun e => h1 (nn_inj e)
    by_cases h2 : c = 92
    · have hs : Hid (sq q c = [92, 92]) := by show sq q c = _; unfold sq; rw [if_neg h1, if_pos h2]
      subst h2
      rw [show nn 92 = 92 from rfl] at n1 ⊢
      clear h1
      go_enter Tryd.func11, Tryd.ntmps11
      go_wp2_with fail
      go_ret
      exact ⟨by (rw [hs.out]; rfl), rfl⟩
    · have hs : Hid (sq q c = []) := by show sq q c = _; unfold sq; rw [if_neg h1, if_neg h2]
      have n2 : (nn c == 92) = false := beq_eq_false_iff_ne.2 fun e => h2 (nn_inj e)
      clear h1 h2
      go_enter Tryd.func11, Tryd.ntmps11
      go_wp2_with fail
      go_ret
      exact ⟨by (rw [hs.out]; rfl), rfl⟩

def prb (c : UInt8) : Bool := decide (32 ≤ nn c) && decide (nn c ≤ 126)
theorem isPrint_any (c : UInt8) (w : World) : Calls Tryd.prog 12 #[.int .u8 (nn c)] w fun e w' => e = .returned (.bool (prb c)) ∧ w = w' := by
  unfold prb
  cases h1 : decide (32 ≤ nn c) with
  | true =>
    go_enter Tryd.func12, Tryd.ntmps12
    go_wp2_with fail
    go_ret
    exact ⟨rfl, rfl⟩
  | false =>
    go_enter Tryd.func12, Tryd.ntmps12
    go_wp2_with fail
    go_ret
    exact ⟨rfl, rfl⟩

end Go.Proofs.YtngofbhlhcalpaaDoor.quo
