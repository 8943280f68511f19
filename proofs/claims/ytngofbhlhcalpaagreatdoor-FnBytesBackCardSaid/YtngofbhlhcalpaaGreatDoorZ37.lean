/-
  Lemmas and contracts of this claim, texts HexD, TzL, QSql, QSqm, BytesIn. No statement of the seat is proved here.
-/
import Derived.Deep.QuietTactic
import Derived.BigQuiet
import Derived.Deep.LoopGhost
import Derived.Test.YtngofbhlhcalpaaGreatDoorZ00
import Derived.Test.YtngofbhlhcalpaaGreatDoorZ33
import Derived.Test.YtngofbhlhcalpaaGreatDoorZ01
import Derived.OpenShut
import Derived.Carry
namespace Go.Proofs.YtngofbhlhcalpaaGreatDoor.quo
open Go.RowKit Go.Proofs.YtngofbhlhcalpaaGreatDoor.gen

def Drawn (v : Value) (w : World) (e : Ending) (w' : World) : Prop := e = .returned v ∧ ∃ n, w' = w.drewN n
/-- The one cell of the table that is read. -/
def Tz (w : World) : Prop := w.cell? ⟨9, 15, none⟩ = some (.int .u8 4)

theorem tz64 (w : World) (h : Tz w) : Calls Tryz.prog 137 #[.int .u64 16] w (Drawn (.int .i64 4) w) := by
  have e15 : (IntKind.u64.wrap (bits .and .u64 16 (IntKind.u64.wrap (-16)) * 285870213051353865) / 288230376151711744).toNat = 15 := by decide +kernel
  have c : w.cell? ⟨9, (IntKind.u64.wrap (bits .and .u64 16 (IntKind.u64.wrap (-16)) * 285870213051353865) / 288230376151711744).toNat, none⟩ = some (.int .u8 4) := by rw [e15]; exact h
  clear e15
  go_enter Tryz.func137, Tryz.ntmps137
  go_wp2_with fail
  go_ret
  exact ⟨rfl, 0, rfl⟩

theorem tz (w : World) (h : Tz w) : Calls Tryz.prog 121 #[.int .u64 16] w (Drawn (.int .i64 4) w) := by
  go_enter Tryz.func121, Tryz.ntmps121
  go_wp2_with fail
  refine (tz64 w h).mono ?_
  rintro e w' ⟨rfl, n, rfl⟩
  go_wp2_with fail
  go_ret
  exact ⟨rfl, _, rfl⟩

theorem pow16 (w : World) : Calls Tryz.prog 120 #[.int .i64 16] w (Drawn (.bool true) w) := by
  go_enter Tryz.func120, Tryz.ntmps120
  go_wp2_with fail
  go_ret
  exact ⟨rfl, 0, rfl⟩

def hexs (u : Nat) : List UInt8 := if u < 16 then [hexd u] else [hexd (u / 16), hexd (u % 16)]

def FbPost (u : Nat) (w : World) (e : Ending) (w' : World) : Prop := e = .returned (.tuple #[.slice none 0 0, .string ⟨(hexs u).toArray⟩]) ∧ Below w.heap.size w w'

theorem Tz.below {w w' : World} (h : Tz w) (hb : Below w.heap.size w w') : Tz w' := (hb.cell (World.block_lt_of_cell? _ _ h)).trans h

def hexDigits : ByteArray := ⟨#[48, 49, 50, 51, 52, 53, 54, 55, 56, 57, 97, 98, 99, 100, 101, 102, 103, 104, 105, 106, 107, 108, 109, 110, 111, 112, 113, 114, 115, 116, 117, 118, 119, 120, 121, 122]⟩

theorem bits15 (u : Nat) (h : u < 256) : bits .and .u64 (u : Int) 15 = ((u % 16 : Nat) : Int) := by
  have key : ∀ n : Fin 256, bits .and .u64 (n.val : Int) 15 = ((n.val % 16 : Nat) : Int) := by decide +kernel
  exact key ⟨u, h⟩
theorem below_drewN {B : Nat} {a w : World} (h : Below B a w) (n : Nat) : Below B a (w.drewN n) := ⟨h.os, h.tape, h.output, h.size, h.block⟩

theorem digit (k : Nat) (hk : k < 16) (h : k < hexDigits.size) : ((hexDigits[k]'h).toNat : Int) = nn (hexd k) := by
  have key : ∀ n : Fin 16, hexDigits.data.toList[n.val]? = some (hexd n.val) := by decide +kernel
  have h1 := key ⟨k, hk⟩
  have h2 : k < hexDigits.data.toList.length := by rw [Array.length_toList]; exact h
  rw [List.getElem?_eq_getElem h2] at h1
  injection h1 with h1
  have h3 : hexDigits[k]'h = hexd k := h1
  rw [h3]; rfl

theorem conv_bytes (W : World) (g o : Nat) (l : List UInt8) (hc : ∀ j, (hj : j < l.length) → W.cell? ⟨g, o + j, none⟩ = some (.int .u8 ((l[j]'hj).toNat : Int))) :
    (convert 44 9 (.slice (some ⟨g, o, none⟩) l.length l.length)).run Tryz.prog W = .ok (.string ⟨l.toArray⟩) W := by
  refine run_convert_bytes_back W 44 9 5 ⟨g, o, none⟩ l.length l Tryz.underlying44 Tryz.underlying5 Tryz.underlying9 fun j hj => ?_
  have hadd : (⟨g, o, none⟩ : Addr).add j = ⟨g, o + j, none⟩ := by unfold Addr.add; split <;> simp_all
  rw [hadd]
  exact hc j hj

/-- The row of digits, and what is written into it. -/
theorem row_bytes (w : World) (n : Nat) : ((w.alloc (.cells Tryz.zeroCells190 190)).drewN n).heap[w.heap.size]? = some (.cells Tryz.zeroCells190 190 (0, 0)) := heap_alloc_new w _
theorem row_size : Tryz.zeroCells190.size = 65 := by kernel_rfl

theorem row_one (w : World) (n : Nat) (c : UInt8) : ∀ j, (hj : j < [c].length) → (((w.alloc (.cells Tryz.zeroCells190 190)).drewN n).setCell ⟨w.heap.size, 64, none⟩ (.int .u8 (nn c))).cell? ⟨w.heap.size, 64 + j, none⟩ = some (.int .u8 (([c][j]'hj).toNat : Int)) := by
  intro j hj
  obtain rfl : j = 0 := by simp at hj; omega
  rw [block_cell (block_set (row_bytes w n) _), Nat.add_zero, Array.getElem?_setIfInBounds_self_of_lt (by rw [row_size]; decide)]
  rfl

theorem row_two (w : World) (n : Nat) (c d : UInt8) : ∀ j, (hj : j < [c, d].length) → ((((w.alloc (.cells Tryz.zeroCells190 190)).drewN n).setCell ⟨w.heap.size, 64, none⟩ (.int .u8 (nn d))).setCell ⟨w.heap.size, 63, none⟩ (.int .u8 (nn c))).cell? ⟨w.heap.size, 63 + j, none⟩ = some (.int .u8 (([c, d][j]'hj).toNat : Int)) := by
  intro j hj
  have hb := block_set (i := 63) (block_set (i := 64) (row_bytes w n) (.int .u8 (nn d))) (.int .u8 (nn c))
  rw [block_cell hb]
  have h2 : j = 0 ∨ j = 1 := by simp at hj; omega
  rcases h2 with rfl | rfl
  · rw [Nat.add_zero, Array.getElem?_setIfInBounds_self_of_lt (by rw [Array.size_setIfInBounds, row_size]; decide)]
    rfl
  · rw [Array.getElem?_setIfInBounds_ne (by decide), Array.getElem?_setIfInBounds_self_of_lt (by rw [row_size]; decide)]
    rfl

set_option maxRecDepth 100000 in
set_option maxHeartbeats 1000000 in
theorem formatBits_any (u : Nat) (hu : u < 256) (w : World) (h : Tz w) : Calls Tryz.prog 107 #[.slice none 0 0, .int .u64 (u : Int), .int .i64 16, .bool false, .bool false] w (FbPost u w) := by
  have HT := Lib.hid h
  have e15 : (bits .and .u64 (u : Int) 15).toNat = u % 16 := by rw [bits15 u hu]; rfl
  have b0 : 0 ≤ bits .and .u64 (u : Int) 15 := by rw [bits15 u hu]; omega
  have b1 : bits .and .u64 (u : Int) 15 < 36 := by rw [bits15 u hu]; omega
  have key : ∀ k, k = u % 16 → ∀ h, ((hexDigits[k]'h).toNat : Int) = nn (hexd (u % 16)) := by rintro k rfl h; exact digit _ (Nat.mod_lt _ (by omega)) h
  have HD1 := Lib.hid (key _ e15)
  have HB : Hid (Below w.heap.size w (w.alloc (.cells Tryz.zeroCells190 190))) := (Below.refl _ w).alloc (Nat.le_refl _) _
  clear h e15 key
  go_enter Tryz.func107, Tryz.ntmps107
  go_wp2_with fail
  refine (pow16 _).mono ?_
  rintro e w1 ⟨rfl, n1, rfl⟩
  go_wp2_with fail
  refine (tz _ (HT.out.below (below_drewN HB.out n1))).mono ?_
  rintro e w1 ⟨rfl, n2, rfl⟩
  go_wp2_with fail
  go_loopw [1, 13] (fun uu i wr => (uu = .int .u64 (u : Int) ∧ i = .int .i64 65 ∧ wr = ((w.alloc (.cells Tryz.zeroCells190 190)).drewN (n1 + n2))) ∨
    (16 ≤ u ∧ uu = .int .u64 ((u / 16 : Nat) : Int) ∧ i = .int .i64 64 ∧ wr = ((w.alloc (.cells Tryz.zeroCells190 190)).drewN (n1 + n2)).setCell ⟨w.heap.size, 64, none⟩ (.int .u8 (nn (hexd (u % 16))))))
    (fun _ i _ => (intOf i).toNat)
  case atStart => exact .inl ⟨rfl, rfl, rfl⟩
  case round =>
    rcases hrel with ⟨rfl, rfl, rfl⟩ | ⟨h16, rfl, rfl, rfl⟩
    · by_cases h16 : u < 16
      · have g16 : ¬ ((16 : Int) ≤ (u : Int)) := by omega
        have hd : ∀ h, ((hexDigits[u]'h).toNat : Int) = nn (hexd u) := digit u h16
        unfold hexDigits at hd
        have hcv : (convert 44 9 (.slice (some ⟨w.heap.size, 64, none⟩) 1 1)).run Tryz.prog _ = .ok (.string ⟨#[hexd u]⟩) _ := conv_bytes _ w.heap.size 64 [hexd u] (row_one w (n1 + n2) (hexd u))
        have HE : Hid (hexs u = [hexd u]) := if_pos h16
        clear b0 b1
        go_wp2_with fail
        go_ret2
        exact ⟨by (rw [HE.out]; rfl), (below_drewN HB.out _).setCell (Nat.le_refl _) _⟩
      · have g16 : ((16 : Int) ≤ (u : Int)) := by omega
        have hd : ∀ h, ((hexDigits[(bits .and .u64 (u : Int) 15).toNat]'h).toNat : Int) = nn (hexd (u % 16)) := HD1.out
        unfold hexDigits at hd
        go_wp2_with fail
        go_roundw
        case rel => exact .inr (by simp; omega)
        case measure => simp [intOf]
    · have g16 : ¬ ((16 : Int) ≤ ((u / 16 : Nat) : Int)) := by omega
      have hd : ∀ h, ((hexDigits[u / 16]'h).toNat : Int) = nn (hexd (u / 16)) := digit (u / 16) (by omega)
      unfold hexDigits at hd
      have hcv : (convert 44 9 (.slice (some ⟨w.heap.size, 63, none⟩) 2 2)).run Tryz.prog _ = .ok (.string ⟨#[hexd (u / 16), hexd (u % 16)]⟩) _ := conv_bytes _ w.heap.size 63 [hexd (u / 16), hexd (u % 16)] (row_two w (n1 + n2) (hexd (u / 16)) (hexd (u % 16)))
      have HE : Hid (hexs u = [hexd (u / 16), hexd (u % 16)]) := if_neg (by omega)
      clear b0 b1
      go_wp2_with fail
      go_ret2
      exact ⟨by (rw [HE.out]; rfl), ((below_drewN HB.out _).setCell (Nat.le_refl _) _).setCell (Nat.le_refl _) _⟩

def TextRes (l : List UInt8) (w : World) (e : Ending) (w' : World) : Prop := e = .returned (.string ⟨l.toArray⟩) ∧ Below w.heap.size w w'

theorem iFormatUint_any (u : Nat) (hu : u < 256) (w : World) (h : Tz w) : Calls Tryz.prog 91 #[.int .u64 (u : Int), .int .i64 16] w (TextRes (hexs u) w) := by
  have HT := Lib.hid h
  clear h
  go_enter Tryz.func91, Tryz.ntmps91
  go_wp2_with fail
  refine (formatBits_any u hu _ HT.out).mono ?_
  rintro e w1 ⟨rfl, hb⟩
  go_wp2_with fail
  go_ret
  exact ⟨rfl, hb⟩

theorem sFormatUint_any (u : Nat) (hu : u < 256) (w : World) (h : Tz w) : Calls Tryz.prog 60 #[.int .u64 (u : Int), .int .i64 16] w (TextRes (hexs u) w) := by
  have HT := Lib.hid h
  clear h
  go_enter Tryz.func60, Tryz.ntmps60
  go_wp2_with fail
  refine (iFormatUint_any u hu _ HT.out).mono ?_
  rintro e w1 ⟨rfl, hb⟩
  go_wp2_with fail
  go_ret
  exact ⟨rfl, hb⟩

def hex2 (u : Nat) : List UInt8 := [hexd (u / 16), hexd (u % 16)]

theorem zzHex_any (u : Nat) (hu : u < 256) (w : World) (h : Tz w) : Calls Tryz.prog 47 #[.int .u64 (u : Int), .int .i64 2] w (TextRes (hex2 u) w) := by
  have HT := Lib.hid h
  clear h
  go_enter Tryz.func47, Tryz.ntmps47
  go_wp2_with fail
  refine (sFormatUint_any u hu _ HT.out).mono ?_
  rintro e w1 ⟨rfl, hb⟩
  have HB := Lib.hid hb
  clear hb
  by_cases h16 : u < 16
  · have HE : Hid (hexs u = [hexd u]) := if_pos h16
    have HH : Hid (hex2 u = [48, hexd u]) := by
      show hex2 u = _
      unfold hex2
      rw [Nat.div_eq_of_lt h16, Nat.mod_eq_of_lt h16]; rfl
    rw [HE.out]
    go_wp2_with fail
    go_loopg [5] 2 (fun g v wr => wr = w1 ∧ ((g = 2 ∧ v = .string ⟨#[hexd u]⟩) ∨ (g = 1 ∧ v = .string ⟨#[48, hexd u]⟩)))
    case atStart => exact ⟨rfl, .inl ⟨rfl, rfl⟩⟩
    case round =>
      obtain ⟨rfl, ⟨hg, rfl⟩ | ⟨hg, rfl⟩⟩ := hrel
      · go_wp2_with fail
        go_roundg 1
        case measure => omega
        case rel => exact ⟨rfl, .inr ⟨rfl, rfl⟩⟩
      · go_wp2_with fail
        go_ret
        exact ⟨by (rw [HH.out]; rfl), HB.out⟩
  · have HE : Hid (hexs u = [hexd (u / 16), hexd (u % 16)]) := if_neg h16
    rw [HE.out]
    go_wp2_with fail
    go_loopg [5] 2 (fun g v wr => wr = w1 ∧ v = .string ⟨#[hexd (u / 16), hexd (u % 16)]⟩)
    case atStart => exact ⟨rfl, rfl⟩
    case round =>
      obtain ⟨rfl, rfl⟩ := hrel
      go_wp2_with fail
      go_ret
      exact ⟨rfl, HB.out⟩

end Go.Proofs.YtngofbhlhcalpaaGreatDoor.quo

namespace Go.Proofs.YtngofbhlhcalpaaGreatDoor.quo
open Go.RowKit Go.Proofs.YtngofbhlhcalpaaGreatDoor.gen Go.Lib
open Go.Proofs.YtngofbhlhcalpaaGreatDoor.lexer (laidL)

def bruijn : List Int := [0, 1, 56, 2, 57, 49, 28, 3, 61, 58, 42, 50, 38, 29, 17, 4, 62, 47, 59, 36, 45, 43, 51, 22, 53, 39, 33, 30, 24, 18, 12, 5, 63, 55, 48, 27, 60, 41, 37, 16, 46, 35, 44, 21, 52, 32, 23, 11, 54, 26, 40, 15, 34, 20, 31, 10, 25, 14, 19, 9, 13, 8, 7, 6]
theorem dB : (Rows.laid_math_bits_deBruijn64tab : DataW Unit) = tabData .u8 bruijn := by kernel_rfl
theorem gB : Tryz.prog.globalNamed "math/bits.deBruijn64tab" = some 9 := by kernel_rfl
theorem gBT : (Tryz.prog.globals[9]?).map (·.type) = some 216 := by kernel_rfl
theorem cB1 : Tryz.prog.cellsOf 5 = 1 := by kernel_rfl
theorem cB2 : Tryz.prog.cellsOf 216 = 64 := by kernel_rfl

theorem tz_of_laid {W : World} (h : laidMetH Tryz.prog laidL W) : Tz W := by
  obtain ⟨h1, _⟩ := laidMetH_iff.1 h
  have r4 : VarReads Tryz.prog W "math/bits.deBruijn64tab" (tabData .u8 bruijn) := by
    rw [← dB]; exact laidMet.reads h1 (List.mem_filter.2 ⟨by simp [laidL, Rows.fnLexEndsRow], rfl⟩)
  obtain ⟨g, t, cs, fuel, p, hg, hty, hvar, hd⟩ := r4
  obtain rfl := Option.some.inj (gB.symm.trans hg)
  obtain rfl := Option.some.inj (gBT.symm.trans hty)
  have h2 := cells_of_tab Tryz.underlying216 Tryz.underlying5 cB1 cB2 hd
  unfold Tz
  rw [World.var?_cell gB hvar 15, ← Array.getElem?_toList, h2]
  rfl

end Go.Proofs.YtngofbhlhcalpaaGreatDoor.quo

namespace Go.Proofs.YtngofbhlhcalpaaGreatDoor.quo
open Go.RowKit Go.Proofs.YtngofbhlhcalpaaGreatDoor.gen

/-- Bytes that came in. -/
def BytesAt (w : World) (v : Value) (l : List UInt8) : Prop :=
  (l = [] ∧ ∃ ao cap, v = .slice ao 0 cap) ∨
  ∃ b off cap, v = .slice (some ⟨b, off, none⟩) l.length cap ∧ b < w.heap.size ∧ ∀ j, (hj : j < l.length) → w.cell? ⟨b, off + j, none⟩ = some (.int .u8 (nn (l[j]'hj)))

theorem BytesAt.below {w w' : World} {v : Value} {l : List UInt8} (h : BytesAt w v l) (hb : Below w.heap.size w w') : BytesAt w' v l := by
  rcases h with h | ⟨b, off, cap, h1, h2, h3⟩
  · exact .inl h
  · exact .inr ⟨b, off, cap, h1, Nat.lt_of_lt_of_le h2 hb.size, fun j hj => (hb.cell h2).trans (h3 j hj)⟩

def hasB (c : UInt8) (l : List UInt8) : Bool := l.any (fun d => d == c)
def qOf (l : List UInt8) : UInt8 := if hasB 39 l = false ∧ hasB 34 l = true then 39 else 34
theorem qOf_cases (l : List UInt8) : qOf l = 34 ∨ qOf l = 39 := by unfold qOf; split; exact .inr rfl; exact .inl rfl

theorem hasB_take (c : UInt8) (l : List UInt8) (k : Nat) (h : k < l.length) : hasB c (l.take (k + 1)) = (hasB c (l.take k) || (l[k] == c)) := by
  unfold hasB
  rw [List.take_add_one, List.getElem?_eq_getElem h, List.any_append]
  simp

def QRes (l : List UInt8) (w : World) (e : Ending) (w' : World) : Prop := e = .returned (.int .i32 (nn (qOf l))) ∧ w = w'

set_option maxRecDepth 100000 in
theorem suitable_any (v : Value) (l : List UInt8) (w : World) (hl : l.length ≤ 2147483647) (h : BytesAt w v l) : Calls Tryz.prog 41 #[v] w (QRes l w) := by
  rcases h with ⟨rfl, ao, cap, rfl⟩ | ⟨b, off, cap, rfl, hb, hc⟩
  · go_enter Tryz.func41, Tryz.ntmps41
    go_wp2_with fail
    go_loopg [3, 4, 9] 1 (fun g x y i wr => wr = w ∧ x = .bool false ∧ y = .bool false ∧ i = .int .i64 0)
    case atStart => exact ⟨rfl, rfl, rfl, rfl⟩
    case round =>
      obtain ⟨rfl, rfl, rfl, rfl⟩ := hrel
      go_wp2_with fail
      go_ret
      exact ⟨rfl, rfl⟩
  · obtain ⟨n, hn⟩ : ∃ n, n = l.length := ⟨_, rfl⟩
    rw [← hn]
    have HN := Lib.hid hn
    have HC := Lib.hid hc
    have hn2 : n ≤ 2147483647 := by omega
    clear hn hc
    go_enter Tryz.func41, Tryz.ntmps41
    go_wp2_with fail
    go_loopg [3, 4, 9] n (fun g x y i wr => wr = w ∧ ∃ k : Nat, g = n - k ∧ k ≤ n ∧ x = .bool (hasB 39 (l.take k)) ∧ y = .bool (hasB 34 (l.take k)) ∧ i = .int .i64 (k : Int))
    case atStart => exact ⟨rfl, 0, rfl, Nat.zero_le _, rfl, rfl, rfl⟩
    case round =>
      obtain ⟨rfl, k, hg, hk, rfl, rfl, rfl⟩ := hrel
      have hkw : IntKind.i64.wrap ((k : Int) + 1) = (k : Int) + 1 := IntWalk.i64_in _ (by omega)
      by_cases hlt : k < n
      · have hkl : k < l.length := by have := HN.out; omega
        have e39 := hasB_take 39 l k hkl
        have e34 := hasB_take 34 l k hkl
        have hcell := HC.out k hkl
        have hi0 : (0 : Int) ≤ (k : Int) := by omega
        have hi1 : (k : Int) < (n : Int) := by omega
        obtain ⟨c, hce⟩ : ∃ c, l[k]'hkl = c := ⟨_, rfl⟩
        rw [hce] at e39 e34 hcell
        by_cases h39 : c = 39
        · subst h39
          have E39 : Hid (hasB 39 (l.take (k + 1)) = true) := by show hasB 39 (l.take (k + 1)) = true; rw [e39]; simp
          have E34 : Hid (hasB 34 (l.take (k + 1)) = hasB 34 (l.take k)) := by show hasB 34 (l.take (k + 1)) = _; rw [e34]; simp
          have e39v : nn 39 = 39 := rfl
          rw [e39v] at hcell
          clear e39 e34 hce
          go_wp2_with fail
          go_roundg (n - (k + 1))
          case measure => omega
          case rel => exact ⟨rfl, k + 1, rfl, by omega, by rw [E39.out], by rw [E34.out], by go_num⟩
        · by_cases h34 : c = 34
          · subst h34
            have E39 : Hid (hasB 39 (l.take (k + 1)) = hasB 39 (l.take k)) := by show hasB 39 (l.take (k + 1)) = _; rw [e39]; simp
            have E34 : Hid (hasB 34 (l.take (k + 1)) = true) := by show hasB 34 (l.take (k + 1)) = true; rw [e34]; simp
            have e34v : nn 34 = 34 := rfl
            rw [e34v] at hcell
            clear e39 e34 hce
            go_wp2_with fail
            go_roundg (n - (k + 1))
            case measure => omega
            case rel => exact ⟨rfl, k + 1, rfl, by omega, by rw [E39.out], by rw [E34.out], by go_num⟩
          · have E39 : Hid (hasB 39 (l.take (k + 1)) = hasB 39 (l.take k)) := by
              show hasB 39 (l.take (k + 1)) = _
              rw [e39, show (c == 39) = false from beq_eq_false_iff_ne.2 h39, Bool.or_false]
            have E34 : Hid (hasB 34 (l.take (k + 1)) = hasB 34 (l.take k)) := by
              show hasB 34 (l.take (k + 1)) = _
              rw [e34, show (c == 34) = false from beq_eq_false_iff_ne.2 h34, Bool.or_false]
            have n39 : (nn c == 39) = false := beq_eq_false_iff_ne.2 fun e => h39 (nn_inj e)
            have n34 : (nn c == 34) = false := beq_eq_false_iff_ne.2 fun e => h34 (nn_inj e)
            clear e39 e34 hce h39 h34
            go_wp2_with fail
            go_roundg (n - (k + 1))
            case measure => omega
            case rel => exact ⟨rfl, k + 1, rfl, by omega, by rw [E39.out], by rw [E34.out], by go_num⟩
      · obtain rfl : k = n := by omega
        have ht : l.take k = l := List.take_of_length_le (by have := HN.out; omega)
        rw [ht]
        cases h1 : hasB 39 l with
        | true =>
          have hq : Hid (qOf l = 34) := by show qOf l = 34; unfold qOf; rw [h1]; simp
          clear h1
          go_wp2_with fail
          go_ret
          exact ⟨by (rw [hq.out]; rfl), rfl⟩
        | false =>
          cases h2 : hasB 34 l with
          | true =>
            have hq : Hid (qOf l = 39) := by show qOf l = 39; unfold qOf; rw [h1, h2]; simp
            clear h1 h2
            go_wp2_with fail
            go_ret
            exact ⟨by (rw [hq.out]; rfl), rfl⟩
          | false =>
            have hq : Hid (qOf l = 34) := by show qOf l = 34; unfold qOf; rw [h1, h2]; simp
            clear h1 h2
            go_wp2_with fail
            go_ret
            exact ⟨by (rw [hq.out]; rfl), rfl⟩

/-- What stands for a byte that is escaped by a backslash. -/
def sq (q c : UInt8) : List UInt8 := if c = q then [92, c] else if c = 92 then [92, 92] else []

set_option maxRecDepth 100000 in
theorem single_any (q c : UInt8) (hq : q = 34 ∨ q = 39) (w : World) : Calls Tryz.prog 44 #[.int .i32 (nn c), .int .i32 (nn q), .bool false] w fun e w' => e = .returned (.string ⟨(sq q c).toArray⟩) ∧ w = w' := by
  by_cases h1 : c = q
  · subst h1
    rcases hq with rfl | rfl
    · rw [show nn 34 = 34 from rfl]
      go_enter Tryz.func44, Tryz.ntmps44
      go_wp2_with fail
      go_ret
      exact ⟨rfl, rfl⟩
    · rw [show nn 39 = 39 from rfl]
      go_enter Tryz.func44, Tryz.ntmps44
      go_wp2_with fail
      go_ret
      exact ⟨rfl, rfl⟩
  · have n1 : (nn c == nn q) = false := beq_eq_false_iff_ne.2 fun e => h1 (nn_inj e)
    by_cases h2 : c = 92
    · have hs : Hid (sq q c = [92, 92]) := by show sq q c = _; unfold sq; rw [if_neg h1, if_pos h2]
      subst h2
      rw [show nn 92 = 92 from rfl] at n1 ⊢
      clear h1
      go_enter Tryz.func44, Tryz.ntmps44
      go_wp2_with fail
      go_ret
      exact ⟨by (rw [hs.out]; rfl), rfl⟩
    · have hs : Hid (sq q c = []) := by show sq q c = _; unfold sq; rw [if_neg h1, if_neg h2]
      have n2 : (nn c == 92) = false := beq_eq_false_iff_ne.2 fun e => h2 (nn_inj e)
      clear h1 h2
      go_enter Tryz.func44, Tryz.ntmps44
      go_wp2_with fail
      go_ret
      exact ⟨by (rw [hs.out]; rfl), rfl⟩

def prb (c : UInt8) : Bool := decide (32 ≤ nn c) && decide (nn c ≤ 126)
theorem isPrint_any (c : UInt8) (w : World) : Calls Tryz.prog 45 #[.int .u8 (nn c)] w fun e w' => e = .returned (.bool (prb c)) ∧ w = w' := by
  unfold prb
  cases h1 : decide (32 ≤ nn c) with
  | true =>
    go_enter Tryz.func45, Tryz.ntmps45
    go_wp2_with fail
    go_ret
    exact ⟨rfl, rfl⟩
  | false =>
    go_enter Tryz.func45, Tryz.ntmps45
    go_wp2_with fail
    go_ret
    exact ⟨rfl, rfl⟩

end Go.Proofs.YtngofbhlhcalpaaGreatDoor.quo

namespace Go.Proofs.YtngofbhlhcalpaaGreatDoor.quo
open Go.RowKit Go.Proofs.YtngofbhlhcalpaaGreatDoor.gen
open Go.Lib (byteCells)

/-- The buffer, the call's own; w is the world in which the call began. -/
structure Bf (w w1 : World) (l : List UInt8) : Prop where
  buf : Lib.IsBuffer 94 5 w.heap.size w.heap.size (byteCells l) w1
  bel : Below w.heap.size w w1

theorem Bf.fresh (w : World) : Bf w (w.alloc (.cells #[.slice none 0 0, .int .i64 0, .int .i8 0] 94)) [] :=
  ⟨Lib.fresh_isBuffer _ _ w, (Below.refl _ _).alloc (Nat.le_refl _) _⟩
theorem byteCells_len (l : List UInt8) : (byteCells l).length = l.length := by simp [byteCells]
theorem byteCells_app (a b : List UInt8) : byteCells (a ++ b) = byteCells a ++ byteCells b := by simp [byteCells]

theorem write_text (w w1 : World) (l t : List UInt8) (h : Bf w w1 l) (hl : l.length + t.length ≤ 140737488355328) : Calls Tryz.prog 42 #[.pointer (some ⟨w.heap.size, 0, none⟩), .string ⟨t.toArray⟩] w1 fun e w2 => (∃ v, e = .returned v) ∧ Bf w w2 (l ++ t) := by
  refine (Tryz.Buffer_WriteString_k w.heap.size w.heap.size (byteCells l) ⟨t.toArray⟩ w1 h.buf h.bel.size (Lib.byteCells_one l) (by rw [byteCells_len]; exact hl)).mono ?_
  rintro e w2 ⟨rfl, h1, h2, _⟩
  refine ⟨⟨_, rfl⟩, ?_, h.bel.trans h2⟩
  rw [byteCells_app]
  exact h1

theorem write_byte (w w1 : World) (l : List UInt8) (c : UInt8) (h : Bf w w1 l) (hl : l.length + 1 ≤ 140737488355328) : Calls Tryz.prog 46 #[.pointer (some ⟨w.heap.size, 0, none⟩), .int .u8 (nn c)] w1 fun e w2 => (∃ v, e = .returned v) ∧ Bf w w2 (l ++ [c]) := by
  refine (Tryz.Buffer_WriteByte_k w.heap.size w.heap.size (byteCells l) (nn c) w1 h.buf h.bel.size (Lib.byteCells_one l) (by rw [byteCells_len]; exact hl)).mono ?_
  rintro e w2 ⟨rfl, h1, h2, _⟩
  refine ⟨⟨_, rfl⟩, ?_, h.bel.trans h2⟩
  rw [byteCells_app]
  exact h1

theorem write_rune (w w1 : World) (l : List UInt8) (c : UInt8) (hc : c.toNat < 128) (h : Bf w w1 l) (hl : l.length + 1 ≤ 140737488355328) : Calls Tryz.prog 43 #[.pointer (some ⟨w.heap.size, 0, none⟩), .int .i32 (nn c)] w1 fun e w2 => (∃ v, e = .returned v) ∧ Bf w w2 (l ++ [c]) := by
  refine (Tryz.Buffer_WriteRune_ascii w.heap.size w.heap.size (byteCells l) (nn c) (nn_bd c).1 (by unfold nn; omega) w1 h.buf h.bel.size (Lib.byteCells_one l) (by rw [byteCells_len]; exact hl)).mono ?_
  rintro e w2 ⟨rfl, h1, h2, _⟩
  refine ⟨⟨_, rfl⟩, ?_, h.bel.trans h2⟩
  rw [byteCells_app]
  exact h1

theorem read_all (w w1 : World) (l : List UInt8) (h : Bf w w1 l) : Calls Tryz.prog 48 #[.pointer (some ⟨w.heap.size, 0, none⟩)] w1 (TextRes l w) := by
  refine (Tryz.Buffer_String w.heap.size w.heap.size l w1 h.buf).mono ?_
  rintro e w2 ⟨rfl, n, rfl⟩
  exact ⟨rfl, below_drewN h.bel n⟩

theorem Bf.below {w w1 w2 : World} {l : List UInt8} (h : Bf w w1 l) (hb : Below w1.heap.size w1 w2) : Bf w w2 l := by
  obtain ⟨h1, v, lr, h2, h3, h4⟩ := h.buf
  refine ⟨⟨h1, v, lr, (hb.block _ (block_lt h2)).trans h2, ⟨h3.1, ?_⟩, h4⟩, h.bel.trans (hb.mono h.bel.size)⟩
  rcases h3.2 with h5 | ⟨g, cap, cur, k1, k2, k3, k4⟩
  · exact .inl h5
  · exact .inr ⟨g, cap, cur, k1, k2, (hb.block _ (block_lt k3)).trans k3, k4⟩
theorem bytes_app (a b : List UInt8) (x : ByteArray) (hx : x = ⟨a.toArray⟩) : x ++ (⟨b.toArray⟩ : ByteArray) = ⟨(a ++ b).toArray⟩ := by
  subst hx
  apply ByteArray.ext
  rw [ByteArray.data_append]
  simp
theorem Tz.bf {w w1 : World} {l : List UInt8} (h : Tz w) (hb : Bf w w1 l) : Tz w1 := h.below hb.bel

/-- What a byte becomes. -/
theorem enc_sq (q c : UInt8) : (sq q c ≠ [] ∧ enc q c = sq q c) ∨ (sq q c = [] ∧ prb c = true ∧ enc q c = [c]) ∨ (sq q c = [] ∧ prb c = false ∧ enc q c = [92, 120] ++ hex2 c.toNat) := by
  unfold sq enc
  by_cases h1 : c = q
  · rw [if_pos h1, if_pos h1]; exact .inl ⟨by simp, rfl⟩
  · rw [if_neg h1, if_neg h1]
    by_cases h2 : c = 92
    · rw [if_pos h2, if_pos h2]; exact .inl ⟨by simp, rfl⟩
    · rw [if_neg h2, if_neg h2]
      have hp : prb c = decide (32 ≤ c.toNat ∧ c.toNat ≤ 126) := by
        unfold prb nn
        rw [← Bool.decide_and]
        exact decide_eq_decide.2 (by omega)
      by_cases h3 : 32 ≤ c.toNat ∧ c.toNat ≤ 126
      · rw [if_pos h3]
        exact .inr (.inl ⟨rfl, by rw [hp]; exact decide_eq_true h3, rfl⟩)
      · rw [if_neg h3]
        exact .inr (.inr ⟨rfl, by rw [hp]; exact decide_eq_false h3, rfl⟩)

theorem encs_take (q : UInt8) (l : List UInt8) (k : Nat) (h : k < l.length) : encs q (l.take (k + 1)) = encs q (l.take k) ++ enc q (l[k]) := by
  rw [List.take_add_one, List.getElem?_eq_getElem h]
  exact encs_snoc q _ _

set_option maxRecDepth 100000 in
set_option maxHeartbeats 1000000 in
theorem quote_any (v : Value) (l : List UInt8) (w : World) (hl : l.length ≤ 2147483647) (h : BytesAt w v l) (ht : Tz w) : Calls Tryz.prog 36 #[v] w (TextRes (lit (qOf l) l) w) := by
  obtain ⟨n, hn⟩ : ∃ n, n = l.length := ⟨_, rfl⟩
  obtain ⟨ao, cap, hv⟩ : ∃ ao cap, v = .slice ao n cap := by
    rcases h with ⟨h1, ao, cap, h2⟩ | ⟨b, off, cap, h1, _⟩
    · exact ⟨ao, cap, by rw [h2, hn, h1]; rfl⟩
    · exact ⟨_, cap, by rw [h1, hn]⟩
  subst hv
  have hn2 : n ≤ 2147483647 := by omega
  have HN := Lib.hid hn
  have HV := Lib.hid h
  have HT := Lib.hid ht
  have hq := qOf_cases l
  obtain ⟨q, hqe⟩ : ∃ q, qOf l = q := ⟨_, rfl⟩
  have HS : Hid (∀ W, Below w.heap.size w W → Calls Tryz.prog 41 #[.slice ao n cap] W fun e w' => e = .returned (.int .i32 (nn q)) ∧ W = w') := fun W hW => by
    have := suitable_any (.slice ao n cap) l W hl (h.below hW)
    unfold QRes at this
    rw [hqe] at this
    exact this
  rw [hqe] at hq ⊢
  have hq128 : q.toNat < 128 := by rcases hq with rfl | rfl <;> decide
  have HQ := Lib.hid hq
  clear hn h ht hq hqe hl
  go_enter Tryz.func36, Tryz.ntmps36
  go_wp2_with fail
  refine (HS.out _ (Below.refl _ _)).mono ?_
  rintro e w' ⟨rfl, rfl⟩
  go_wp2_with fail
  refine (write_text w _ [] [98] (Bf.fresh w) (by decide)).mono ?_
  rintro e w1 ⟨⟨v1, rfl⟩, hb1⟩
  have HB1 := Lib.hid hb1
  clear hb1
  go_wp2_with fail
  refine (write_rune w _ ([] ++ [98]) q hq128 HB1.out (by decide)).mono ?_
  rintro e w2 ⟨⟨v2, rfl⟩, hb2⟩
  have HB2 := Lib.hid hb2
  clear hb2
  go_wp2_with fail
  go_loopg [15] n (fun g i wr => ∃ k : Nat, g = n - k ∧ k ≤ n ∧ i = .int .i64 (k : Int) ∧ Hid (Bf w wr (98 :: q :: encs q (l.take k))))
  case atStart => exact ⟨0, rfl, Nat.zero_le _, rfl, HB2.out⟩
  case round =>
    obtain ⟨k, hg, hk, rfl, HBk⟩ := hrel
    have hkw : IntKind.i64.wrap ((k : Int) + 1) = (k : Int) + 1 := IntWalk.i64_in _ (by omega)
    have hle : (encs q (l.take k)).length ≤ 8589934588 := by
      have h1 := (encs_len q (l.take k)).2
      rw [List.length_take] at h1
      omega
    by_cases hlt : k < n
    · have hkl : k < l.length := by have := HN.out; omega
      have hi0 : (0 : Int) ≤ (k : Int) := by omega
      have hi1 : (k : Int) < (n : Int) := by omega
      obtain ⟨c, hce⟩ : ∃ c, l[k]'hkl = c := ⟨_, rfl⟩
      have HE := Lib.hid (encs_take q l k hkl)
      rw [hce] at HE
      obtain ⟨b, off, rfl, hcell⟩ : ∃ b off, ao = some ⟨b, off, none⟩ ∧ wr.cell? ⟨b, off + k, none⟩ = some (.int .u8 (nn c)) := by
        rcases HV.out with ⟨h1, _⟩ | ⟨b, off, cap', h1, h2, h3⟩
        · rw [h1] at hkl; simp at hkl
        · injection h1 with h4 _ _
          refine ⟨b, off, h4, ?_⟩
          rw [HBk.out.bel.cell (p := ⟨b, off + k, none⟩) h2, h3 k hkl, hce]
      have hwi : IntKind.i32.wrap (nn c) = nn c := by rw [IntKind.wrap_i32]; have := nn_bd c; omega
      have hwu : IntKind.u64.wrap (nn c) = nn c := by rw [IntKind.wrap_u64]; have := nn_bd c; omega
      clear hce
      rcases enc_sq q c with ⟨h1, h2⟩ | ⟨h1, h2, h3⟩ | ⟨h1, h2, h3⟩
      · have hne : (sq q c).isEmpty = false := by
          cases h9 : sq q c with
          | nil => exact absurd h9 h1
          | cons a b => rfl
        have hsl : (sq q c).length ≤ 2 := by unfold sq; split; exact Nat.le_refl _; split; exact Nat.le_refl _; exact Nat.zero_le _
        rw [h2] at HE
        clear h1 h2
        go_wp2_with fail
        refine (single_any q c HQ.out _).mono ?_
        rintro e w' ⟨rfl, rfl⟩
        go_wp2_with fail
        refine (write_text w _ (98 :: q :: encs q (l.take k)) (sq q c) HBk.out (by simp only [List.length_cons]; omega)).mono ?_
        rintro e w3 ⟨⟨v3, rfl⟩, hb3⟩
        have HB3 := Lib.hid hb3
        clear hb3
        go_wp2_with fail
        go_roundg (n - (k + 1))
        case measure => omega
        case rel => exact ⟨k + 1, rfl, by omega, by go_num, by (show Bf _ _ _; rw [HE.out]; exact HB3.out)⟩
      · have hne : (sq q c).isEmpty = true := by rw [h1]; rfl
        rw [h3] at HE
        clear h1 h3
        go_wp2_with fail
        refine (single_any q c HQ.out _).mono ?_
        rintro e w' ⟨rfl, rfl⟩
        go_wp2_with fail
        refine (isPrint_any c _).mono ?_
        rintro e w' ⟨rfl, rfl⟩
        rw [h2]
        go_wp2_with fail
        refine (write_byte w _ (98 :: q :: encs q (l.take k)) c HBk.out (by simp only [List.length_cons]; omega)).mono ?_
        rintro e w3 ⟨⟨v3, rfl⟩, hb3⟩
        have HB3 := Lib.hid hb3
        clear hb3
        go_wp2_with fail
        go_roundg (n - (k + 1))
        case measure => omega
        case rel => exact ⟨k + 1, rfl, by omega, by go_num, by (show Bf _ _ _; rw [HE.out]; exact HB3.out)⟩
      · have hne : (sq q c).isEmpty = true := by rw [h1]; rfl
        rw [h3] at HE
        clear h1 h3
        go_wp2_with fail
        refine (single_any q c HQ.out _).mono ?_
        rintro e w' ⟨rfl, rfl⟩
        go_wp2_with fail
        refine (isPrint_any c _).mono ?_
        rintro e w' ⟨rfl, rfl⟩
        rw [h2]
        go_wp2_with fail
        refine (zzHex_any c.toNat c.toNat_lt _ (HT.out.bf HBk.out)).mono ?_
        rintro e w3 ⟨rfl, hb3⟩
        have HB3 := Lib.hid hb3
        have HBf : Hid (Bf w w3 (98 :: q :: encs q (l.take k))) := HBk.out.below HB3.out
        clear hb3
        go_wp2_with fail
        rw [bytes_app [92, 120] (hex2 c.toNat) ⟨#[92, 120]⟩ rfl]
        refine (write_text w _ (98 :: q :: encs q (l.take k)) ([92, 120] ++ hex2 c.toNat) HBf.out (by simp only [List.length_cons, hex2, List.length_append, List.length_nil]; omega)).mono ?_
        rintro e w4 ⟨⟨v4, rfl⟩, hb4⟩
        have HB4 := Lib.hid hb4
        clear hb4
        go_wp2_with fail
        go_roundg (n - (k + 1))
        case measure => omega
        case rel => exact ⟨k + 1, rfl, by omega, by go_num, by (show Bf _ _ _; rw [HE.out]; exact HB4.out)⟩
    · obtain rfl : k = n := by omega
      have htk : l.take k = l := List.take_of_length_le (by have := HN.out; omega)
      rw [htk] at hle HBk
      go_wp2_with fail
      refine (write_rune w _ (98 :: q :: encs q l) q hq128 HBk.out (by simp only [List.length_cons]; omega)).mono ?_
      rintro e w3 ⟨⟨v3, rfl⟩, hb3⟩
      have HB3 := Lib.hid hb3
      clear hb3
      go_wp2_with fail
      refine (read_all w _ _ HB3.out).mono ?_
      rintro e w4 ⟨rfl, hb4⟩
      go_wp2_with fail
      go_ret
      exact ⟨rfl, hb4⟩

theorem impl_quote_any (v : Value) (l : List UInt8) (w : World) (hl : l.length ≤ 2147483647) (h : BytesAt w v l) (ht : Tz w) : Calls Tryz.prog 25 #[v] w (TextRes (lit (qOf l) l) w) := by
  have HV := Lib.hid h
  have HT := Lib.hid ht
  clear h ht
  go_enter Tryz.func25, Tryz.ntmps25
  go_wp2_with fail
  refine (quote_any v l _ hl HV.out HT.out).mono ?_
  rintro e w1 ⟨rfl, hb⟩
  go_wp2_with fail
  go_ret
  exact ⟨rfl, hb⟩

end Go.Proofs.YtngofbhlhcalpaaGreatDoor.quo

namespace Go.Proofs.YtngofbhlhcalpaaGreatDoor.quo
open Go.RowKit Go.Proofs.YtngofbhlhcalpaaGreatDoor.gen Go.ChangeShapes Go.WideShapes

theorem laidOut : laidOutB Tryz.prog = true := by kernel_rfl

theorem u8_nn {z : Int} (h : (Lit.int .u8 z).wf = true) : nn (UInt8.ofNat z.toNat) = z := by
  have hb := bounds_u8 h
  unfold nn
  rw [UInt8.toNat_ofNat', Nat.mod_eq_of_lt (by omega)]
  omega

theorem bytes_in {H : Type} {enc : TypeId × Value → H} {W : World} {v : Value} {d : DataW H} {p : List MemPlace} (h : DataW.Trod enc Tryz.prog W 0 (fun _ => true) true 44 v d p) (hs : ∃ a len cap, v = .slice a len cap) :
    ∃ l, BytesAt W v l ∧ l.length ≤ 9223372036854775807 := by
  obtain ⟨a0, len0, cap0, rfl⟩ := hs
  obtain ⟨fuel, hf⟩ := h
  rcases open_ints Tryz.underlying44 Tryz.underlying5 (by kernel_rfl) hf with ⟨hcs, _⟩ | ⟨x, len, cap, zs, hcs, _, hl, hm, hz, _, hcell, hwz⟩
  · simp [Value.cells] at hcs
    obtain ⟨rfl, rfl, rfl⟩ := hcs
    exact ⟨[], .inl ⟨rfl, none, 0, rfl⟩, by simp⟩
  · simp [Value.cells] at hcs
    obtain ⟨rfl, rfl, rfl⟩ := hcs
    have hz : zs.length = cap0 := by simpa using hz
    unfold maxLen at hm
    have hln : ((zs.take len0).map fun z => UInt8.ofNat z.toNat).length = len0 := by rw [List.length_map, List.length_take]; omega
    refine ⟨(zs.take len0).map fun z => UInt8.ofNat z.toNat, ?_, by rw [hln]; omega⟩
    by_cases h0 : len0 = 0
    · subst h0
      exact .inl ⟨by simp, some x, cap0, rfl⟩
    · obtain ⟨b, off, rfl, hc⟩ := ints_at hcell (by omega)
      refine .inr ⟨b, off, cap0, by rw [hln], World.block_lt_of_cell? W _ (hc 0 (by omega)), fun j hj => ?_⟩
      have hj2 : j < len0 := by rw [hln] at hj; exact hj
      have hjz : j < zs.length := by omega
      rw [hc j hjz]
      have e : zs.getD j 0 = zs[j] := by simp [List.getD, hjz]
      rw [e]
      have e2 : ((zs.take len0).map fun z => UInt8.ofNat z.toNat)[j]'hj = UInt8.ofNat (zs[j]).toNat := by simp
      rw [e2, u8_nn (hwz _ (List.getElem_mem hjz))]

end Go.Proofs.YtngofbhlhcalpaaGreatDoor.quo
