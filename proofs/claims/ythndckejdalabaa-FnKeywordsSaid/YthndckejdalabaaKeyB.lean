/-
  Contracts of laws.turned, spec.Keyword. No statement of the seat is proved here.
-/
import Derived.Test.YthndckejdalabaaKeyA
import Derived.Deep.QuietTactic
import Derived.BigQuiet
import Derived.Outline
namespace Go.Proofs.Ythndckejdalabaa.upper
open Go.RowKit Go.Proofs.Ythndckejdalabaa.gen

def Turned (l : List UInt8) (w : World) (e : Ending) (w' : World) : Prop := ∃ t : List UInt8, e = .returned (.string ⟨t.toArray⟩) ∧ up t = up l ∧ t.length = l.length ∧ Below w.heap.size w w'

theorem flip_bits : ∀ n : Nat, n < 256 → bits BinOp.xor IntKind.u8 (n : Int) 32 = ((UInt8.ofNat n ^^^ 32).toNat : Int) := by decide +kernel
theorem flip_up : ∀ n : Nat, n < 256 → (97 ≤ n ∧ n ≤ 122 ∨ 65 ≤ n ∧ n ≤ 90) → upb (UInt8.ofNat n ^^^ 32) = upb (UInt8.ofNat n) := by decide +kernel
theorem flip_bits' (c : UInt8) : bits BinOp.xor IntKind.u8 (c.toNat : Int) 32 = ((c ^^^ 32).toNat : Int) := by
  have h := flip_bits c.toNat c.toNat_lt
  rwa [UInt8.ofNat_toNat] at h
theorem flip_up' (c : UInt8) (h : 97 ≤ c.toNat ∧ c.toNat ≤ 122 ∨ 65 ≤ c.toNat ∧ c.toNat ≤ 90) : upb (c ^^^ 32) = upb c := by
  have h := flip_up c.toNat c.toNat_lt h
  rwa [UInt8.ofNat_toNat] at h
theorem up_flip (t : List UInt8) (k : Nat) (c : UInt8) (hk : t[k]? = some c) (h : 97 ≤ c.toNat ∧ c.toNat ≤ 122 ∨ 65 ≤ c.toNat ∧ c.toNat ≤ 90) : up (t.set k (c ^^^ 32)) = up t := by
  obtain ⟨h1, h2⟩ := List.getElem?_eq_some_iff.1 hk
  unfold up
  rw [List.map_set, flip_up' c h, ← h2]
  have : upb t[k] = (t.map upb)[k]'(by simpa using h1) := by simp
  rw [this, List.set_getElem_self]

def Rel (s : ByteArray) (B : Nat) (v i : Value) (w wr : World) : Prop := ∃ k : Nat, ∃ t : List UInt8, k ≤ s.size ∧ i = .int .i64 k ∧ OwnC wr B v (bv t) ∧ t.length = s.size ∧ up t = up s.data.toList ∧ Below B w wr

theorem rel_keep {s : ByteArray} {B k : Nat} {v : Value} {w wr : World} {t : List UInt8} (hlt : k < s.size) (hown : OwnC wr B v (bv t)) (htl : t.length = s.size) (hup : up t = up s.data.toList) (hbel : Below B w wr) (nq : Nat) :
    Rel s B v (.int .i64 ((k : Int) + 1)) w (wr.drewN nq) :=
  ⟨k + 1, t, by omega, by go_num, hown.below (below_drewN (Below.refl _ _) nq), htl, hup, below_drewN hbel nq⟩

theorem rel_flip {s : ByteArray} {B k cap : Nat} {w wr : World} {t : List UInt8} {c : UInt8} (hlt : k < s.size) (hown : OwnC wr B (.slice (some ⟨B, 0, none⟩) s.size cap) (bv t)) (htl : t.length = s.size) (hup : up t = up s.data.toList) (hbel : Below B w wr) (nq : Nat)
    (hk : t[k]? = some c) (h : 97 ≤ c.toNat ∧ c.toNat ≤ 122 ∨ 65 ≤ c.toNat ∧ c.toNat ≤ 90) :
    Rel s B (.slice (some ⟨B, 0, none⟩) s.size cap) (.int .i64 ((k : Int) + 1)) w ((wr.drewN nq).setCell ⟨B, k, none⟩ (.int .u8 (bits BinOp.xor IntKind.u8 (c.toNat : Int) 32))) := by
  have h1 := setCell_ownC (hown.below (below_drewN (Below.refl _ _) nq)) k hlt (.int .u8 ((c ^^^ 32).toNat : Int))
  rw [bv_set] at h1
  refine ⟨k + 1, t.set k (c ^^^ 32), by omega, by go_num, ?_, by rw [List.length_set, htl], by rw [up_flip t k c hk h, hup], (below_drewN hbel nq).setCell (Nat.le_refl _) _⟩
  rw [flip_bits']; exact h1

set_option maxHeartbeats 1000000 in
theorem turned_any (s : ByteArray) (n : Int) (w : World) (hs : s.size ≤ 2147483648) :
    Calls Try.prog 14 #[.string s, .int .u64 n] w (Turned s.data.toList w) := by
  have hq3 := fun (wx : World) (s : ByteArray) => run_bytes_of_string (P := Try.prog) wx 9 39 5 s Try.underlying9 Try.underlying39 Try.underlying5
  have hown0 := (OwnC.bytes w 5 s (grownCap w s.size 0 5) s.size w.heap.size (bv s.data.toList) rfl (grownCap_ge _ _ _ _) (grownCap_le_maxLen _ _ _ _ (by unfold maxLen; omega)) (Nat.le_refl _) rfl).drew
  go_enter Try.func14, Try.ntmps14
  go_wp2
  go_loopw [13] (fun i wr => Rel s w.heap.size (.slice (some ⟨w.heap.size, 0, none⟩) s.size (grownCap w s.size 0 5)) i w wr)
    (fun i _ => s.size - (intOf i).toNat)
  case atStart => exact ⟨0, s.data.toList, by omega, rfl, hown0, by rw [Array.length_toList]; rfl, rfl, ((Below.refl _ _).alloc (Nat.le_refl _) _).drew⟩
  case round =>
    obtain ⟨k, t, hk, rfl, hown, htl0, hup0, hbel⟩ := hrel
    have htl := Lib.hid htl0
    have hup := Lib.hid hup0
    clear hown0 htl0 hup0
    by_cases hlt : k < s.size
    · have hkt : k < t.length := by rw [htl.out]; exact hlt
      obtain ⟨c, hcl0⟩ : ∃ c, t[k]? = some c := ⟨_, List.getElem?_eq_getElem hkt⟩
      obtain ⟨hc, hf, -, -, -⟩ := own_bv hown k c hcl0
      have hcl := Lib.hid hcl0
      clear hkt hcl0
      by_cases h1 : (97 : Int) ≤ (c.toNat : Int)
      · by_cases h2 : (c.toNat : Int) ≤ 122
        · have h3 : (65 : Int) ≤ (c.toNat : Int) := by omega
          have h4 : decide ((c.toNat : Int) ≤ 90) = false := by simp; omega
          go_wp2_with fail
          go_quiet (fail)
          go_wp2
          all_goals
            go_roundw
            case rel => first | exact rel_keep hlt hown htl.out hup.out hbel _ | exact rel_flip hlt hown htl.out hup.out hbel _ hcl.out (by omega)
            case measure => simp [intOf]; omega
        · have h3 : (65 : Int) ≤ (c.toNat : Int) := by omega
          have h4 : decide ((c.toNat : Int) ≤ 90) = false := by simp; omega
          have h5 : decide ((c.toNat : Int) ≤ 122) = false := by simp; omega
          go_wp2_with fail
          go_quiet (fail)
          go_wp2
          go_roundw
          case rel => exact rel_keep hlt hown htl.out hup.out hbel _
          case measure => simp [intOf]; omega
      · have h5 : decide ((97 : Int) ≤ (c.toNat : Int)) = false := by simp; omega
        by_cases h2 : (65 : Int) ≤ (c.toNat : Int)
        · by_cases h3 : (c.toNat : Int) ≤ 90
          · have h6 : (c.toNat : Int) < 97 := by omega
            go_wp2_with fail
            go_quiet (fail)
            go_wp2
            all_goals
              go_roundw
              case rel => first | exact rel_keep hlt hown htl.out hup.out hbel _ | exact rel_flip hlt hown htl.out hup.out hbel _ hcl.out (by omega)
              case measure => simp [intOf]; omega
          · have h6 : decide ((c.toNat : Int) ≤ 90) = false := by simp; omega
            go_wp2_with fail
            go_quiet (fail)
            go_wp2
            go_roundw
            case rel => exact rel_keep hlt hown htl.out hup.out hbel _
            case measure => simp [intOf]; omega
        · have h6 : decide ((65 : Int) ≤ (c.toNat : Int)) = false := by simp; omega
          go_wp2_with fail
          go_quiet (fail)
          go_wp2
          go_roundw
          case rel => exact rel_keep hlt hown htl.out hup.out hbel _
          case measure => simp [intOf]; omega
    · have hk2 : k = s.size := by omega
      clear hk
      have hq4 := hown.text (P := Try.prog) 39 9 5 Try.underlying39 Try.underlying5 Try.underlying9
      clear hown
      have HK := Lib.hid hk2
      clear hk2
      go_wp2
      go_ret
      exact ⟨t, rfl, hup.out, by rw [htl.out, Array.length_toList]; rfl, hbel⟩

end Go.Proofs.Ythndckejdalabaa.upper
