/-
  The literal of bytes as a plain list of bytes. No statement of the seat is proved here, and no program is in sight.
-/
import Derived.Test.YtngofbhlhcalpaaDoorGen
namespace Go.Proofs.YtngofbhlhcalpaaDoor.quo
open Go.RowKit Go.Proofs.YtngofbhlhcalpaaDoor.gen

/-- A byte as a number. -/
def nn (c : UInt8) : Int := (c.toNat : Int)
theorem nn_bd (c : UInt8) : 0 ≤ nn c ∧ nn c ≤ 255 := by unfold nn; have := c.toNat_lt; omega
theorem nn_inj {c d : UInt8} (h : nn c = nn d) : c = d := by
  unfold nn at h
  exact UInt8.toNat_inj.mp (by omega)

/-- The hexadecimal digit of a number below sixteen. -/
def hexd (n : Nat) : UInt8 := UInt8.ofNat (if n < 10 then 48 + n else 87 + n)

theorem nn_hexd (n : Nat) (h : n < 16) : nn (hexd n) = if n < 10 then 48 + (n : Int) else 87 + (n : Int) := by
  unfold nn hexd
  rw [UInt8.toNat_ofNat']
  split <;> (rw [Nat.mod_eq_of_lt (by omega)]; omega)

def enc (q c : UInt8) : List UInt8 :=
  if c = q then [92, c] else if c = 92 then [92, 92] else if 32 ≤ c.toNat ∧ c.toNat ≤ 126 then [c] else [92, 120, hexd (c.toNat / 16), hexd (c.toNat % 16)]
def encs (q : UInt8) : List UInt8 → List UInt8
  | [] => []
  | c :: r => enc q c ++ encs q r
def lit (q : UInt8) (l : List UInt8) : List UInt8 := 98 :: q :: (encs q l ++ [q])

theorem enc_cases (q c : UInt8) (hq : q = 34 ∨ q = 39) :
    (enc q c = [c] ∧ c ≠ q ∧ c ≠ 92 ∧ 32 ≤ c.toNat ∧ c.toNat ≤ 126) ∨ (enc q c = [92, c] ∧ (c = 34 ∨ c = 39 ∨ c = 92)) ∨
    (∃ h l, enc q c = [92, 120, hexd h, hexd l] ∧ h < 16 ∧ l < 16 ∧ c.toNat = 16 * h + l) := by
  unfold enc
  split
  · next h => exact .inr (.inl ⟨rfl, by rcases hq with hq | hq <;> simp [h, hq]⟩)
  · split
    · next h => exact .inr (.inl ⟨by rw [h], .inr (.inr h)⟩)
    · split
      · next h1 h2 h3 => exact .inl ⟨rfl, h1, h2, h3⟩
      · refine .inr (.inr ⟨_, _, rfl, ?_, Nat.mod_lt _ (by omega), ?_⟩)
        · have := c.toNat_lt; omega
        · omega

theorem enc_len (q c : UInt8) : 1 ≤ (enc q c).length ∧ (enc q c).length ≤ 4 := by
  unfold enc
  split
  · simp
  · split
    · simp
    · split <;> simp
theorem encs_len (q : UInt8) (l : List UInt8) : l.length ≤ (encs q l).length ∧ (encs q l).length ≤ 4 * l.length := by
  induction l with
  | nil => exact ⟨Nat.le_refl _, by simp [encs]⟩
  | cons c r ih =>
    have := enc_len q c
    simp only [encs, List.length_append, List.length_cons]
    omega
theorem encs_snoc (q : UInt8) (l : List UInt8) (c : UInt8) : encs q (l ++ [c]) = encs q l ++ enc q c := by
  induction l with
  | nil => simp [encs]
  | cons d r ih => simp [encs, ih]
theorem lit_len (q : UInt8) (l : List UInt8) : (lit q l).length ≤ 4 * l.length + 3 := by
  have := (encs_len q l).2
  simp [lit]; omega

/-- The text from a place on. -/
def sf (s : ByteArray) (k : Nat) : List UInt8 := s.data.toList.drop k
theorem len_list (s : ByteArray) : s.data.toList.length = s.size := by rw [Array.length_toList]; rfl
theorem sf_len (s : ByteArray) (k : Nat) : (sf s k).length = s.size - k := by unfold sf; rw [List.length_drop, len_list]
theorem sf_drop (s : ByteArray) (k n : Nat) : sf s (k + n) = (sf s k).drop n := by unfold sf; rw [List.drop_drop]
theorem sf_cons (s : ByteArray) (k : Nat) (h : k < s.size) : sf s k = s[k] :: sf s (k + 1) := by
  unfold sf
  have h2 : k < s.data.toList.length := by rw [len_list]; exact h
  rw [List.drop_eq_getElem_cons h2]; rfl
theorem sf_at {s : ByteArray} {k : Nat} {c : UInt8} {r : List UInt8} (h : sf s k = c :: r) : ∃ hk : k < s.size, s[k] = c ∧ sf s (k + 1) = r := by
  have hl := sf_len s k
  rw [h] at hl
  simp only [List.length_cons] at hl
  have hk : k < s.size := by omega
  have h2 := sf_cons s k hk
  rw [h] at h2
  injection h2 with h3 h4
  exact ⟨hk, h3.symm, h4.symm⟩

theorem enc_head (q c : UInt8) (hq : q = 34 ∨ q = 39) : ∃ x t, enc q c = x :: t ∧ x ≠ q ∧ x ≠ 10 ∧ x ≠ 13 := by
  rcases enc_cases q c hq with ⟨h, h1, h2, h3, h4⟩ | ⟨h, _⟩ | ⟨a, b, h, _⟩
  · refine ⟨c, [], h, h1, ?_, ?_⟩ <;> (rintro rfl; revert h3; decide)
  · refine ⟨92, [c], h, ?_⟩
    rcases hq with rfl | rfl <;> decide
  · refine ⟨92, [120, hexd a, hexd b], h, ?_⟩
    rcases hq with rfl | rfl <;> decide

end Go.Proofs.YtngofbhlhcalpaaDoor.quo
