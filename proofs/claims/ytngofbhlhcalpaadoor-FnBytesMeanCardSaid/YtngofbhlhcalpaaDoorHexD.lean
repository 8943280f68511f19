/-
  Two hexadecimal digits: math/bits.TrailingZeros, strconv.FormatUint at base sixteen, token.zzHex. No statement of the seat is proved here.
-/
import Derived.Test.YtngofbhlhcalpaaDoorLitP
import Derived.Deep.QuietTactic
import Derived.BigQuiet
import Derived.Deep.LoopGhost
namespace Go.Proofs.YtngofbhlhcalpaaDoor.quo
open Go.RowKit Go.Proofs.YtngofbhlhcalpaaDoor.gen

def Drawn (v : Value) (w : World) (e : Ending) (w' : World) : Prop := e = .returned v ∧ ∃ n, w' = w.drewN n
/-- The one cell of the table that is read. -/
def Tz (w : World) : Prop := w.cell? ⟨3, 15, none⟩ = some (.int .u8 4)

theorem tz64 (w : World) (h : Tz w) : Calls Tryd.prog 55 #[.int .u64 16] w (Drawn (.int .i64 4) w) := by
  have e15 : (IntKind.u64.wrap (bits .and .u64 16 (IntKind.u64.wrap (-16)) * 285870213051353865) / 288230376151711744).toNat = 15 := by decide +kernel
  have c : w.cell? ⟨3, (IntKind.u64.wrap (bits .and .u64 16 (IntKind.u64.wrap (-16)) * 285870213051353865) / 288230376151711744).toNat, none⟩ = some (.int .u8 4) := by rw [e15]; exact h
  clear e15
  go_enter Tryd.func55, Tryd.ntmps55
  go_wp2_with fail
  go_ret
  exact ⟨rfl, 0, rfl⟩

theorem tz (w : World) (h : Tz w) : Calls Tryd.prog 53 #[.int .u64 16] w (Drawn (.int .i64 4) w) := by
  go_enter Tryd.func53, Tryd.ntmps53
  go_wp2_with fail
  refine (tz64 w h).mono ?_
  rintro e w' ⟨rfl, n, rfl⟩
  go_wp2_with fail
  go_ret
  exact ⟨rfl, _, rfl⟩

theorem pow16 (w : World) : Calls Tryd.prog 52 #[.int .i64 16] w (Drawn (.bool true) w) := by
  go_enter Tryd.func52, Tryd.ntmps52
  go_wp2_with fail
  go_ret
  exact ⟨rfl, 0, rfl⟩

def hexs (u : Nat) : List UInt8 := if u < 16 then [hexd u] else [hexd (u / 16), hexd (u % 16)]

def FbPost (u : Nat) (w : World) (e : Ending) (w' : World) : Prop := e = .returned (.tuple #[.slice none 0 0, .string ⟨(hexs u).toArray⟩]) ∧ Below w.heap.size w w'

theorem Tz.below {w w' : World} (h : Tz w) (hb : Below w.heap.size w w') : Tz w' := (hb.cell (World.block_lt_of_cell? _ _ h)).trans h

def hexDigits : ByteArray := ⟨#[48, 49, 50, 51, 52, 53, 54, 55, 56, 57, 97, 98, 99, 100, 101, 102, 103, 104, 105, 106, 107, 108, 109, 110, 111, 112, 113, 114, 115, 116, 117, 118, 119, 120, 121, 122]⟩

theorem bits15 (u : Nat) (h : u < 256) : bits .and .u64 (u : Int) 15 = ((u % 16 : Nat) : Int) := by
  have key : ∀ n : Fin 256, bits .and .u64 (n.val : Int) 15 = ((n.val % 16 : Nat) : Int) := by decide +kernel
  exact key ⟨u, h⟩
theorem below_drewN {B : Nat} {a w : World} (h : Below B a w) (n : Nat) : Below B a (w.drewN n) := ⟨h.os, h.tape, h.output, h.size, h.block⟩

theorem digit (k : Nat) (hk : k < 16) (h : k < hexDigits.size) : ((hexDigits[k]'h).toNat : Int) = nn (hexd k) := by
  have key : ∀ n : Fin 16, hexDigits.data.toList[n.val]? = some (hexd n.val) := by decide +kernel
  have h1 := key ⟨k, hk⟩
  have h2 : k < hexDigits.data.toList.length := by rw [Array.length_toList]; exact h
  rw [List.getElem?_eq_getElem h2] at h1
  injection h1 with h1
  have h3 : hexDigits[k]'h = hexd k := h1
  rw [h3]; rfl

theorem conv_bytes (W : World) (g o : Nat) (l : List UInt8) (hc : ∀ j, (hj : j < l.length) → W.cell? ⟨g, o + j, none⟩ = some (.int .u8 ((l[j]'hj).toNat : Int))) :
    (convert 22 9 (.slice (some ⟨g, o, none⟩) l.length l.length)).run Tryd.prog W = .ok (.string ⟨l.toArray⟩) W := by
  refine run_convert_bytes_back W 22 9 5 ⟨g, o, none⟩ l.length l Tryd.underlying22 Tryd.underlying5 Tryd.underlying9 fun j hj => ?_
  have hadd : (⟨g, o, none⟩ : Addr).add j = ⟨g, o + j, none⟩ := by unfold Addr.add; split <;> simp_all
  rw [hadd]
  exact hc j hj

/-- The row of digits, and what is written into it. -/
theorem row_bytes (w : World) (n : Nat) : ((w.alloc (.cells Tryd.zeroCells81 81)).drewN n).heap[w.heap.size]? = some (.cells Tryd.zeroCells81 81 (0, 0)) := heap_alloc_new w _
theorem row_size : Tryd.zeroCells81.size = 65 := by kernel_rfl

theorem row_one (w : World) (n : Nat) (c : UInt8) : ∀ j, (hj : j < [c].length) → (((w.alloc (.cells Tryd.zeroCells81 81)).drewN n).setCell ⟨w.heap.size, 64, none⟩ (.int .u8 (nn c))).cell? ⟨w.heap.size, 64 + j, none⟩ = some (.int .u8 (([c][j]'hj).toNat : Int)) := by
  intro j hj
  obtain rfl : j = 0 := by simp at hj; omega
  rw [block_cell (block_set (row_bytes w n) _), Nat.add_zero, Array.getElem?_setIfInBounds_self_of_lt (by rw [row_size]; decide)]
  rfl

theorem row_two (w : World) (n : Nat) (c d : UInt8) : ∀ j, (hj : j < [c, d].length) → ((((w.alloc (.cells Tryd.zeroCells81 81)).drewN n).setCell ⟨w.heap.size, 64, none⟩ (.int .u8 (nn d))).setCell ⟨w.heap.size, 63, none⟩ (.int .u8 (nn c))).cell? ⟨w.heap.size, 63 + j, none⟩ = some (.int .u8 (([c, d][j]'hj).toNat : Int)) := by
  intro j hj
  have hb := block_set (i := 63) (block_set (i := 64) (row_bytes w n) (.int .u8 (nn d))) (.int .u8 (nn c))
  rw [block_cell hb]
  have h2 : j = 0 ∨ j = 1 := by simp at hj; omega
  rcases h2 with rfl | rfl
  · rw [Nat.add_zero, Array.getElem?_setIfInBounds_self_of_lt (by rw [Array.size_setIfInBounds, row_size]; decide)]
    rfl
  · rw [Array.getElem?_setIfInBounds_ne (by decide), Array.getElem?_setIfInBounds_self_of_lt (by rw [row_size]; decide)]
    rfl

set_option maxRecDepth 100000 in
set_option maxHeartbeats 1000000 in
theorem formatBits_any (u : Nat) (hu : u < 256) (w : World) (h : Tz w) : Calls Tryd.prog 48 #[.slice none 0 0, .int .u64 (u : Int), .int .i64 16, .bool false, .bool false] w (FbPost u w) := by
  have HT := Lib.hid h
  have e15 : (bits .and .u64 (u : Int) 15).toNat = u % 16 := by rw [bits15 u hu]; rfl
  have b0 : 0 ≤ bits .and .u64 (u : Int) 15 := by rw [bits15 u hu]; omega
  have b1 : bits .and .u64 (u : Int) 15 < 36 := by rw [bits15 u hu]; omega
  have key : ∀ k, k = u % 16 → ∀ h, ((hexDigits[k]'h).toNat : Int) = nn (hexd (u % 16)) := by rintro k rfl h; exact digit _ (Nat.mod_lt _ (by omega)) h
  have HD1 := Lib.hid (key _ e15)
  have HB : Hid (Below w.heap.size w (w.alloc (.cells Tryd.zeroCells81 81))) := (Below.refl _ w).alloc (Nat.le_refl _) _
  clear h e15 key
  go_enter Tryd.func48, Tryd.ntmps48
  go_wp2_with fail
  refine (pow16 _).mono ?_
  rintro e w1 ⟨rfl, n1, rfl⟩
  go_wp2_with fail
  refine (tz _ (HT.out.below (below_drewN HB.out n1))).mono ?_
  rintro e w1 ⟨rfl, n2, rfl⟩
  go_wp2_with fail
  go_loopw [1, 13] (fun uu i wr => (uu = .int .u64 (u : Int) ∧ i = .int .i64 65 ∧ wr = ((w.alloc (.cells Tryd.zeroCells81 81)).drewN (n1 + n2))) ∨
    (16 ≤ u ∧ uu = .int .u64 ((u / 16 : Nat) : Int) ∧ i = .int .i64 64 ∧ wr = ((w.alloc (.cells Tryd.zeroCells81 81)).drewN (n1 + n2)).setCell ⟨w.heap.size, 64, none⟩ (.int .u8 (nn (hexd (u % 16))))))
    (fun _ i _ => (intOf i).toNat)
  case atStart => exact .inl ⟨rfl, rfl, rfl⟩
  case round =>
    rcases hrel with ⟨rfl, rfl, rfl⟩ | ⟨h16, rfl, rfl, rfl⟩
    · by_cases h16 : u < 16
      · have g16 : ¬ ((16 : Int) ≤ (u : Int)) := by omega
        have hd : ∀ h, ((hexDigits[u]'h).toNat : Int) = nn (hexd u) := digit u h16
        unfold hexDigits at hd
        have hcv : (convert 22 9 (.slice (some ⟨w.heap.size, 64, none⟩) 1 1)).run Tryd.prog _ = .ok (.string ⟨#[hexd u]⟩) _ := conv_bytes _ w.heap.size 64 [hexd u] (row_one w (n1 + n2) (hexd u))
        have HE : Hid (hexs u = [hexd u]) := if_pos h16
        clear b0 b1
        go_wp2_with fail
        go_ret2
        exact ⟨by (rw [HE.out]; rfl), (below_drewN HB.out _).setCell (Nat.le_refl _) _⟩
      · have g16 : ((16 : Int) ≤ (u : Int)) := by omega
        have hd : ∀ h, ((hexDigits[(bits .and .u64 (u : Int) 15).toNat]'h).toNat : Int) = nn (hexd (u % 16)) := HD1.out
        unfold hexDigits at hd
        go_wp2_with fail
        go_roundw
        case rel => exact .inr (by simp; omega)
        case measure => simp [intOf]
    · have g16 : ¬ ((16 : Int) ≤ ((u / 16 : Nat) : Int)) := by omega
      have hd : ∀ h, ((hexDigits[u / 16]'h).toNat : Int) = nn (hexd (u / 16)) := digit (u / 16) (by omega)
      unfold hexDigits at hd
      have hcv : (convert 22 9 (.slice (some ⟨w.heap.size, 63, none⟩) 2 2)).run Tryd.prog _ = .ok (.string ⟨#[hexd (u / 16), hexd (u % 16)]⟩) _ := conv_bytes _ w.heap.size 63 [hexd (u / 16), hexd (u % 16)] (row_two w (n1 + n2) (hexd (u / 16)) (hexd (u % 16)))
      have HE : Hid (hexs u = [hexd (u / 16), hexd (u % 16)]) := if_neg (by omega)
      clear b0 b1
      go_wp2_with fail
      go_ret2
      exact ⟨by (rw [HE.out]; rfl), ((below_drewN HB.out _).setCell (Nat.le_refl _) _).setCell (Nat.le_refl _) _⟩

def TextRes (l : List UInt8) (w : World) (e : Ending) (w' : World) : Prop := e = .returned (.string ⟨l.toArray⟩) ∧ Below w.heap.size w w'

theorem iFormatUint_any (u : Nat) (hu : u < 256) (w : World) (h : Tz w) : Calls Tryd.prog 40 #[.int .u64 (u : Int), .int .i64 16] w (TextRes (hexs u) w) := by
  have HT := Lib.hid h
  clear h
  go_enter Tryd.func40, Tryd.ntmps40
  go_wp2_with fail
  refine (formatBits_any u hu _ HT.out).mono ?_
  rintro e w1 ⟨rfl, hb⟩
  go_wp2_with fail
  go_ret
  exact ⟨rfl, hb⟩

theorem sFormatUint_any (u : Nat) (hu : u < 256) (w : World) (h : Tz w) : Calls Tryd.prog 23 #[.int .u64 (u : Int), .int .i64 16] w (TextRes (hexs u) w) := by
  have HT := Lib.hid h
  clear h
  go_enter Tryd.func23, Tryd.ntmps23
  go_wp2_with fail
  refine (iFormatUint_any u hu _ HT.out).mono ?_
  rintro e w1 ⟨rfl, hb⟩
  go_wp2_with fail
  go_ret
  exact ⟨rfl, hb⟩

def hex2 (u : Nat) : List UInt8 := [hexd (u / 16), hexd (u % 16)]

theorem zzHex_any (u : Nat) (hu : u < 256) (w : World) (h : Tz w) : Calls Tryd.prog 14 #[.int .u64 (u : Int), .int .i64 2] w (TextRes (hex2 u) w) := by
  have HT := Lib.hid h
  clear h
  go_enter Tryd.func14, Tryd.ntmps14
  go_wp2_with fail
  refine (sFormatUint_any u hu _ HT.out).mono ?_
  rintro e w1 ⟨rfl, hb⟩
  have HB := Lib.hid hb
  clear hb
  by_cases h16 : u < 16
  · have HE : Hid (hexs u = [hexd u]) := if_pos h16
    have HH : Hid (hex2 u = [48, hexd u]) := by
      show hex2 u = _
      unfold hex2
      rw [Nat.div_eq_of_lt h16, Nat.mod_eq_of_lt h16]; rfl
    rw [HE.out]
    go_wp2_with fail
    go_loopg [5] 2 (fun g v wr => wr = w1 ∧ ((g = 2 ∧ v = .string ⟨#[hexd u]⟩) ∨ (g = 1 ∧ v = .string ⟨#[48, hexd u]⟩)))
    case atStart => exact ⟨rfl, .inl ⟨rfl, rfl⟩⟩
    case round =>
      obtain ⟨rfl, ⟨hg, rfl⟩ | ⟨hg, rfl⟩⟩ := hrel
      · go_wp2_with fail
        go_roundg 1
        case measure => omega
        case rel => exact ⟨rfl, .inr ⟨rfl, rfl⟩⟩
      · go_wp2_with fail
        go_ret
        exact ⟨by (rw [HH.out]; rfl), HB.out⟩
  · have HE : Hid (hexs u = [hexd (u / 16), hexd (u % 16)]) := if_neg h16
    rw [HE.out]
    go_wp2_with fail
    go_loopg [5] 2 (fun g v wr => wr = w1 ∧ v = .string ⟨#[hexd (u / 16), hexd (u % 16)]⟩)
    case atStart => exact ⟨rfl, rfl⟩
    case round =>
      obtain ⟨rfl, rfl⟩ := hrel
      go_wp2_with fail
      go_ret
      exact ⟨rfl, HB.out⟩

end Go.Proofs.YtngofbhlhcalpaaDoor.quo
