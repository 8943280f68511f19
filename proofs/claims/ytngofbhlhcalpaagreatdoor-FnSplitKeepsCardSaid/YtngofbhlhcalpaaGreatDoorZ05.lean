/-
  Lemmas and contracts of this claim, texts Parse, ParseB, QuoG. No statement of the seat is proved here.
-/
import Derived.Lib.ConvBytes
import Derived.Lib.AtoiErrMem
import Derived.Lib.Hide
import Derived.BigCall
import Derived.BigGuard
import Derived.Test.YtngofbhlhcalpaaGreatDoorZ00
import Derived.Test.YtngofbhlhcalpaaGreatDoorZ01
import Derived.Test.YtngofbhlhcalpaaGreatDoorZ04
namespace Go.Proofs.YtngofbhlhcalpaaGreatDoor.lexer
open Go.RowKit Go.Proofs.YtngofbhlhcalpaaGreatDoor.gen

theorem dvs_snoc (b : Nat) (l : List UInt8) (c : UInt8) : dvs b (l ++ [c]) = dvs b l * b + dv c := by simp [dvs]

theorem hex_lower : ∀ n : Nat, n < 256 → hx (n : Int) = true → dg (n : Int) = false → (97 ≤ bits .or .u8 (n : Int) 32 ∧ bits .or .u8 (n : Int) 32 ≤ 102 ∧ (dv (UInt8.ofNat n) : Int) = bits .or .u8 (n : Int) 32 - 87) := by decide +kernel
theorem nohex_lower : ∀ n : Nat, n < 256 → hx (n : Int) = false → (bits .or .u8 (n : Int) 32 < 97 ∨ 103 ≤ bits .or .u8 (n : Int) 32) := by decide +kernel
theorem dig_dv : ∀ n : Nat, n < 256 → dg (n : Int) = true → (dv (UInt8.ofNat n) : Int) = (n : Int) - 48 ∧ 48 ≤ n ∧ n ≤ 57 := by decide +kernel

def ParseOk (u : Nat) (w : World) (e : Ending) (w' : World) : Prop := e = .returned (.tuple #[.int .u64 (u : Int), .nilIface]) ∧ Below w.heap.size w w'
def ParseIn (w : World) (e : Ending) (w' : World) : Prop := e = .returned (.tuple #[.int .u64 0, .iface 194 (.int .i64 2)]) ∧ Below w.heap.size w w'

def okAll (base : Nat) (l : List UInt8) : Bool := if base = 16 then l.all (fun c => hx (nn c)) else l.all (fun c => oc (nn c))

set_option maxHeartbeats 32000000 in
set_option maxRecDepth 100000 in
theorem parseIn_16_8 (t : ByteArray) (w : World) (h0 : t.size ≠ 0) (hm : t.size ≤ 8) (hv : ∀ k, (t.data.toList.take k).all (fun c => hx (nn c)) = true → dvs 16 (t.data.toList.take k) ≤ 255)
    (ok : Bool) (hok : t.data.toList.all (fun c => hx (nn c)) = ok) :
    Calls Tryz.prog 110 #[.string t, .int .i64 16, .int .i64 8] w (fun e w' => if ok then ParseOk (dvs 16 t.data.toList) w e w' else ParseIn w e w') := by
  have hemp : t.toList.isEmpty = false := by
    rw [← decide_eq_emptyBytes]
    exact decide_eq_false (fun h => h0 (by rw [h]; rfl))
  have hcv := Lib.run_convert_string_bytes (P := Tryz.prog) w 9 44 5 t (u := .string) Tryz.underlying9 Tryz.underlying44 Tryz.underlying5
  have hB : ∀ j, j < t.size → (Lib.bytesWorld w 5 t).cell? ⟨w.heap.size, j, none⟩ = some (.int .u8 (t.data.toList.getD j 0).toNat) := fun j hj => Lib.bytesWorld_cell w 5 t j hj
  have hbel : Below w.heap.size w (Lib.bytesWorld w 5 t) := Lib.bytesWorld_below w 5 t
  obtain ⟨W1, hW1⟩ : ∃ W1, W1 = Lib.bytesWorld w 5 t := ⟨_, rfl⟩
  rw [← hW1] at hcv hB hbel
  clear hW1
  obtain ⟨bs, hL⟩ : ∃ bs, bs = t.data.toList := ⟨_, rfl⟩
  have hLn : bs.length = t.size := by rw [hL, Lib.size_eq]
  rw [← hL] at hB hv hok ⊢
  clear hL
  have HV := Lib.hid hv
  have HO := Lib.hid hok
  clear hv hok
  have hmv : IntKind.u64.wrap (IntKind.u64.wrap (2 ^ 8) - 1) = 255 := by
    rw [IntKind.wrap_u64, IntKind.wrap_u64]
    decide
  go_enter Tryz.func110, Tryz.ntmps110
  go_wp2
  go_loop [12, 13, 101] (fun vu vn vi => ∃ (k : Nat) (a : Int), vu = .bool false ∧ vn = .int .u64 a ∧ vi = .int .i64 k ∧ k ≤ t.size ∧ Hid (a = (dvs 16 (bs.take k) : Int) ∧ (bs.take k).all (fun c => hx (nn c)) = true)) (fun _ _ vi => t.size - (intOf vi).toNat)
  case atStart => exact ⟨0, 0, rfl, rfl, rfl, by omega, Lib.hid ⟨rfl, rfl⟩⟩
  case round =>
    obtain ⟨k, a, rfl, rfl, rfl, hk, hh⟩ := hrel
    have a0 : 0 ≤ a := by have := hh.out.1; omega
    by_cases hkn : k < t.size
    · have hc := hB k hkn
      have hkl : k < bs.length := by omega
      have htake : bs.take (k + 1) = bs.take k ++ [bs[k]'hkl] := List.take_succ_eq_append_getElem hkl
      have hmem : bs[k]'hkl ∈ bs := List.getElem_mem hkl
      have hget : bs.getD k 0 = bs[k]'hkl := by simp [List.getD, List.getElem?_eq_getElem hkl]
      rw [hget] at hc
      generalize bs[k]'hkl = c at hc htake hmem
      have hc256 : c.toNat < 256 := c.toNat_lt
      clear hB hget
      cases hpc : hx (nn c) with
      | true =>
        have hall : (bs.take (k + 1)).all (fun c => hx (nn c)) = true := by rw [htake, List.all_append, hh.out.2]; simp [hpc]
        have hle := HV.out (k + 1) hall
        have hval : (dvs 16 (bs.take (k + 1)) : Int) = a * 16 + (dv c : Int) := by
          rw [htake, dvs_snoc, hh.out.1]; simp
        have hsum : a * 16 + (dv c : Int) ≤ 255 := by omega
        have hdv0 : (0 : Int) ≤ (dv c : Int) := by omega
        have HH := Lib.hid (show (a * 16 + (dv c : Int) = (dvs 16 (bs.take (k + 1)) : Int)) ∧ (bs.take (k + 1)).all (fun c => hx (nn c)) = true from ⟨hval.symm, hall⟩)
        clear hall hle hval hh
        cases hdg : dg (nn c) with
        | true =>
          have h1 := dig_dv c.toNat hc256 hdg
          rw [show UInt8.ofNat c.toNat = c from by simp] at h1
          obtain ⟨h1, h2, h3⟩ := h1
          rw [h1] at hsum hdv0 HH
          have icut : a < 1152921504606846976 := by omega
          clear h1 hdg hpc
          go_wp2_with fail
          go_round
          case rel => exact ⟨k + 1, _, rfl, rfl, by go_num, by omega, HH⟩
          case measure => simp [intOf]; omega
        | false =>
          have h1 := hex_lower c.toNat hc256 hpc hdg
          rw [show UInt8.ofNat c.toNat = c from by simp] at h1
          obtain ⟨z, hz⟩ : ∃ z, bits .or .u8 (c.toNat : Int) 32 = z := ⟨_, rfl⟩
          rw [hz] at h1
          obtain ⟨h1, h2, h3⟩ := h1
          rw [h3] at hsum hdv0 HH
          have icut : a < 1152921504606846976 := by omega
          have hnd : ¬ (48 ≤ c.toNat ∧ c.toNat ≤ 57) := by
            intro h
            have : dg (nn c) = true := by
              show (decide (48 ≤ (c.toNat : Int)) && decide ((c.toNat : Int) ≤ 57)) = true
              simp; omega
            rw [hdg] at this; cases this
          clear h3 hdg hpc
          have h95 : ((c.toNat : Int) == 95) = false := by
            refine Bool.eq_false_iff.2 fun h => ?_
            have h2 : (c.toNat : Int) = 95 := by simpa using h
            rw [h2] at hz
            have : bits .or .u8 (95 : Int) 32 = 127 := by decide +kernel
            omega
          have HH2 := Lib.hid (show a * 16 + (z - 97 + 10) = (dvs 16 (bs.take (k + 1)) : Int) ∧ (bs.take (k + 1)).all (fun c => hx (nn c)) = true from ⟨by have := HH.out.1; omega, HH.out.2⟩)
          clear HH
          go_wp2_with (go_at_call 122; refine (Tryz.internal_strconv_lower _ _).mono ?_; rw [hz]; rintro e w' ⟨rfl, rfl⟩)
          all_goals exact ⟨⟨k + 1, _, rfl, rfl, by go_num, by omega, HH2⟩, by simp [intOf]; omega⟩
      | false =>
        have hno : ok = false := by
          rw [← HO.out]
          refine Bool.eq_false_iff.2 fun h => ?_
          have := List.all_eq_true.1 h c hmem
          rw [hpc] at this; cases this
        subst hno
        have hxz := bits_lo_u8 .or (c.toNat : Int) 32
        have hxy := bits_hi_u8 .or (c.toNat : Int) 32
        have hnd : ¬ (48 ≤ c.toNat ∧ c.toNat ≤ 57) := by
          intro h
          have : hx (nn c) = true := by
            show ((decide (48 ≤ (c.toNat : Int)) && decide ((c.toNat : Int) ≤ 57)) || _ || _) = true
            simp; omega
          rw [hpc] at this; cases this
        have hnh := nohex_lower c.toNat hc256 hpc
        clear hh hmem htake hpc
        by_cases h95 : c.toNat = 95
        · have hz : bits .or .u8 (95 : Int) 32 = 127 := by decide +kernel
          go_wp2_with (go_at_call 122; refine (Tryz.internal_strconv_lower _ _).mono ?_; (first | rw [hz] | skip); rintro e w' ⟨rfl, rfl⟩)
          all_goals go_ret2
          all_goals exact ⟨rfl, hbel⟩
        · obtain ⟨z, hz⟩ : ∃ z, bits .or .u8 (c.toNat : Int) 32 = z := ⟨_, rfl⟩
          rw [hz] at hnh hxz hxy
          go_wp2_with (go_at_call 122; refine (Tryz.internal_strconv_lower _ _).mono ?_; rw [hz]; rintro e w' ⟨rfl, rfl⟩)
          all_goals go_ret2
          all_goals exact ⟨rfl, hbel⟩
    · have hkk : k = t.size := by omega
      subst hkk
      have hfull : bs.take t.size = bs := List.take_of_length_le (by omega)
      have hyes : ok = true := by rw [← HO.out, ← hfull]; exact hh.out.2
      subst hyes
      have ha : a = (dvs 16 bs : Int) := by rw [← hfull]; exact hh.out.1
      subst ha
      clear hh hfull
      go_wp2
      go_ret2
      exact ⟨rfl, hbel⟩

set_option maxHeartbeats 32000000 in
set_option maxRecDepth 100000 in
theorem parseIn_16_32 (t : ByteArray) (w : World) (h0 : t.size ≠ 0) (hm : t.size ≤ 8) (hv : ∀ k, (t.data.toList.take k).all (fun c => hx (nn c)) = true → dvs 16 (t.data.toList.take k) ≤ 4294967295)
    (ok : Bool) (hok : t.data.toList.all (fun c => hx (nn c)) = ok) :
    Calls Tryz.prog 110 #[.string t, .int .i64 16, .int .i64 32] w (fun e w' => if ok then ParseOk (dvs 16 t.data.toList) w e w' else ParseIn w e w') := by
  have hemp : t.toList.isEmpty = false := by
    rw [← decide_eq_emptyBytes]
    exact decide_eq_false (fun h => h0 (by rw [h]; rfl))
  have hcv := Lib.run_convert_string_bytes (P := Tryz.prog) w 9 44 5 t (u := .string) Tryz.underlying9 Tryz.underlying44 Tryz.underlying5
  have hB : ∀ j, j < t.size → (Lib.bytesWorld w 5 t).cell? ⟨w.heap.size, j, none⟩ = some (.int .u8 (t.data.toList.getD j 0).toNat) := fun j hj => Lib.bytesWorld_cell w 5 t j hj
  have hbel : Below w.heap.size w (Lib.bytesWorld w 5 t) := Lib.bytesWorld_below w 5 t
  obtain ⟨W1, hW1⟩ : ∃ W1, W1 = Lib.bytesWorld w 5 t := ⟨_, rfl⟩
  rw [← hW1] at hcv hB hbel
  clear hW1
  obtain ⟨bs, hL⟩ : ∃ bs, bs = t.data.toList := ⟨_, rfl⟩
  have hLn : bs.length = t.size := by rw [hL, Lib.size_eq]
  rw [← hL] at hB hv hok ⊢
  clear hL
  have HV := Lib.hid hv
  have HO := Lib.hid hok
  clear hv hok
  have hmv : IntKind.u64.wrap (IntKind.u64.wrap (2 ^ 32) - 1) = 4294967295 := by
    rw [IntKind.wrap_u64, IntKind.wrap_u64]
    decide
  go_enter Tryz.func110, Tryz.ntmps110
  go_wp2
  go_loop [12, 13, 101] (fun vu vn vi => ∃ (k : Nat) (a : Int), vu = .bool false ∧ vn = .int .u64 a ∧ vi = .int .i64 k ∧ k ≤ t.size ∧ Hid (a = (dvs 16 (bs.take k) : Int) ∧ (bs.take k).all (fun c => hx (nn c)) = true)) (fun _ _ vi => t.size - (intOf vi).toNat)
  case atStart => exact ⟨0, 0, rfl, rfl, rfl, by omega, Lib.hid ⟨rfl, rfl⟩⟩
  case round =>
    obtain ⟨k, a, rfl, rfl, rfl, hk, hh⟩ := hrel
    have a0 : 0 ≤ a := by have := hh.out.1; omega
    by_cases hkn : k < t.size
    · have hc := hB k hkn
      have hkl : k < bs.length := by omega
      have htake : bs.take (k + 1) = bs.take k ++ [bs[k]'hkl] := List.take_succ_eq_append_getElem hkl
      have hmem : bs[k]'hkl ∈ bs := List.getElem_mem hkl
      have hget : bs.getD k 0 = bs[k]'hkl := by simp [List.getD, List.getElem?_eq_getElem hkl]
      rw [hget] at hc
      generalize bs[k]'hkl = c at hc htake hmem
      have hc256 : c.toNat < 256 := c.toNat_lt
      clear hB hget
      cases hpc : hx (nn c) with
      | true =>
        have hall : (bs.take (k + 1)).all (fun c => hx (nn c)) = true := by rw [htake, List.all_append, hh.out.2]; simp [hpc]
        have hle := HV.out (k + 1) hall
        have hval : (dvs 16 (bs.take (k + 1)) : Int) = a * 16 + (dv c : Int) := by
          rw [htake, dvs_snoc, hh.out.1]; simp
        have hsum : a * 16 + (dv c : Int) ≤ 4294967295 := by omega
        have hdv0 : (0 : Int) ≤ (dv c : Int) := by omega
        have HH := Lib.hid (show (a * 16 + (dv c : Int) = (dvs 16 (bs.take (k + 1)) : Int)) ∧ (bs.take (k + 1)).all (fun c => hx (nn c)) = true from ⟨hval.symm, hall⟩)
        clear hall hle hval hh
        cases hdg : dg (nn c) with
        | true =>
          have h1 := dig_dv c.toNat hc256 hdg
          rw [show UInt8.ofNat c.toNat = c from by simp] at h1
          obtain ⟨h1, h2, h3⟩ := h1
          rw [h1] at hsum hdv0 HH
          have icut : a < 1152921504606846976 := by omega
          clear h1 hdg hpc
          go_wp2_with fail
          go_round
          case rel => exact ⟨k + 1, _, rfl, rfl, by go_num, by omega, HH⟩
          case measure => simp [intOf]; omega
        | false =>
          have h1 := hex_lower c.toNat hc256 hpc hdg
          rw [show UInt8.ofNat c.toNat = c from by simp] at h1
          obtain ⟨z, hz⟩ : ∃ z, bits .or .u8 (c.toNat : Int) 32 = z := ⟨_, rfl⟩
          rw [hz] at h1
          obtain ⟨h1, h2, h3⟩ := h1
          rw [h3] at hsum hdv0 HH
          have icut : a < 1152921504606846976 := by omega
          have hnd : ¬ (48 ≤ c.toNat ∧ c.toNat ≤ 57) := by
            intro h
            have : dg (nn c) = true := by
              show (decide (48 ≤ (c.toNat : Int)) && decide ((c.toNat : Int) ≤ 57)) = true
              simp; omega
            rw [hdg] at this; cases this
          clear h3 hdg hpc
          have h95 : ((c.toNat : Int) == 95) = false := by
            refine Bool.eq_false_iff.2 fun h => ?_
            have h2 : (c.toNat : Int) = 95 := by simpa using h
            rw [h2] at hz
            have : bits .or .u8 (95 : Int) 32 = 127 := by decide +kernel
            omega
          have HH2 := Lib.hid (show a * 16 + (z - 97 + 10) = (dvs 16 (bs.take (k + 1)) : Int) ∧ (bs.take (k + 1)).all (fun c => hx (nn c)) = true from ⟨by have := HH.out.1; omega, HH.out.2⟩)
          clear HH
          go_wp2_with (go_at_call 122; refine (Tryz.internal_strconv_lower _ _).mono ?_; rw [hz]; rintro e w' ⟨rfl, rfl⟩)
          all_goals exact ⟨⟨k + 1, _, rfl, rfl, by go_num, by omega, HH2⟩, by simp [intOf]; omega⟩
      | false =>
        have hno : ok = false := by
          rw [← HO.out]
          refine Bool.eq_false_iff.2 fun h => ?_
          have := List.all_eq_true.1 h c hmem
          rw [hpc] at this; cases this
        subst hno
        have hxz := bits_lo_u8 .or (c.toNat : Int) 32
        have hxy := bits_hi_u8 .or (c.toNat : Int) 32
        have hnd : ¬ (48 ≤ c.toNat ∧ c.toNat ≤ 57) := by
          intro h
          have : hx (nn c) = true := by
            show ((decide (48 ≤ (c.toNat : Int)) && decide ((c.toNat : Int) ≤ 57)) || _ || _) = true
            simp; omega
          rw [hpc] at this; cases this
        have hnh := nohex_lower c.toNat hc256 hpc
        clear hh hmem htake hpc
        by_cases h95 : c.toNat = 95
        · have hz : bits .or .u8 (95 : Int) 32 = 127 := by decide +kernel
          go_wp2_with (go_at_call 122; refine (Tryz.internal_strconv_lower _ _).mono ?_; (first | rw [hz] | skip); rintro e w' ⟨rfl, rfl⟩)
          all_goals go_ret2
          all_goals exact ⟨rfl, hbel⟩
        · obtain ⟨z, hz⟩ : ∃ z, bits .or .u8 (c.toNat : Int) 32 = z := ⟨_, rfl⟩
          rw [hz] at hnh hxz hxy
          go_wp2_with (go_at_call 122; refine (Tryz.internal_strconv_lower _ _).mono ?_; rw [hz]; rintro e w' ⟨rfl, rfl⟩)
          all_goals go_ret2
          all_goals exact ⟨rfl, hbel⟩
    · have hkk : k = t.size := by omega
      subst hkk
      have hfull : bs.take t.size = bs := List.take_of_length_le (by omega)
      have hyes : ok = true := by rw [← HO.out, ← hfull]; exact hh.out.2
      subst hyes
      have ha : a = (dvs 16 bs : Int) := by rw [← hfull]; exact hh.out.1
      subst ha
      clear hh hfull
      go_wp2
      go_ret2
      exact ⟨rfl, hbel⟩

set_option maxHeartbeats 32000000 in
set_option maxRecDepth 100000 in
theorem parseIn_8_8 (t : ByteArray) (w : World) (h0 : t.size ≠ 0) (hm : t.size ≤ 8) (hv : ∀ k, (t.data.toList.take k).all (fun c => oc (nn c)) = true → dvs 8 (t.data.toList.take k) ≤ 255)
    (ok : Bool) (hok : t.data.toList.all (fun c => oc (nn c)) = ok) :
    Calls Tryz.prog 110 #[.string t, .int .i64 8, .int .i64 8] w (fun e w' => if ok then ParseOk (dvs 8 t.data.toList) w e w' else ParseIn w e w') := by
  have hemp : t.toList.isEmpty = false := by
    rw [← decide_eq_emptyBytes]
    exact decide_eq_false (fun h => h0 (by rw [h]; rfl))
  have hcv := Lib.run_convert_string_bytes (P := Tryz.prog) w 9 44 5 t (u := .string) Tryz.underlying9 Tryz.underlying44 Tryz.underlying5
  have hB : ∀ j, j < t.size → (Lib.bytesWorld w 5 t).cell? ⟨w.heap.size, j, none⟩ = some (.int .u8 (t.data.toList.getD j 0).toNat) := fun j hj => Lib.bytesWorld_cell w 5 t j hj
  have hbel : Below w.heap.size w (Lib.bytesWorld w 5 t) := Lib.bytesWorld_below w 5 t
  obtain ⟨W1, hW1⟩ : ∃ W1, W1 = Lib.bytesWorld w 5 t := ⟨_, rfl⟩
  rw [← hW1] at hcv hB hbel
  clear hW1
  obtain ⟨bs, hL⟩ : ∃ bs, bs = t.data.toList := ⟨_, rfl⟩
  have hLn : bs.length = t.size := by rw [hL, Lib.size_eq]
  rw [← hL] at hB hv hok ⊢
  clear hL
  have HV := Lib.hid hv
  have HO := Lib.hid hok
  clear hv hok
  have hmv : IntKind.u64.wrap (IntKind.u64.wrap (2 ^ 8) - 1) = 255 := by
    rw [IntKind.wrap_u64, IntKind.wrap_u64]
    decide
  go_enter Tryz.func110, Tryz.ntmps110
  go_wp2
  go_loop [12, 13, 101] (fun vu vn vi => ∃ (k : Nat) (a : Int), vu = .bool false ∧ vn = .int .u64 a ∧ vi = .int .i64 k ∧ k ≤ t.size ∧ Hid (a = (dvs 8 (bs.take k) : Int) ∧ (bs.take k).all (fun c => oc (nn c)) = true)) (fun _ _ vi => t.size - (intOf vi).toNat)
  case atStart => exact ⟨0, 0, rfl, rfl, rfl, by omega, Lib.hid ⟨rfl, rfl⟩⟩
  case round =>
    obtain ⟨k, a, rfl, rfl, rfl, hk, hh⟩ := hrel
    have a0 : 0 ≤ a := by have := hh.out.1; omega
    by_cases hkn : k < t.size
    · have hc := hB k hkn
      have hkl : k < bs.length := by omega
      have htake : bs.take (k + 1) = bs.take k ++ [bs[k]'hkl] := List.take_succ_eq_append_getElem hkl
      have hmem : bs[k]'hkl ∈ bs := List.getElem_mem hkl
      have hget : bs.getD k 0 = bs[k]'hkl := by simp [List.getD, List.getElem?_eq_getElem hkl]
      rw [hget] at hc
      generalize bs[k]'hkl = c at hc htake hmem
      have hc256 : c.toNat < 256 := c.toNat_lt
      clear hB hget
      cases hpc : oc (nn c) with
      | true =>
        have hall : (bs.take (k + 1)).all (fun c => oc (nn c)) = true := by rw [htake, List.all_append, hh.out.2]; simp [hpc]
        have hle := HV.out (k + 1) hall
        have hval : (dvs 8 (bs.take (k + 1)) : Int) = a * 8 + (dv c : Int) := by
          rw [htake, dvs_snoc, hh.out.1]; simp
        have hsum : a * 8 + (dv c : Int) ≤ 255 := by omega
        have hdv0 : (0 : Int) ≤ (dv c : Int) := by omega
        have HH := Lib.hid (show (a * 8 + (dv c : Int) = (dvs 8 (bs.take (k + 1)) : Int)) ∧ (bs.take (k + 1)).all (fun c => oc (nn c)) = true from ⟨hval.symm, hall⟩)
        clear hall hle hval hh
        have hdg : dg (nn c) = true ∧ nn c ≤ 55 := by
          have h : (decide (48 ≤ nn c) && decide (nn c ≤ 55)) = true := hpc
          rw [Bool.and_eq_true, decide_eq_true_eq, decide_eq_true_eq] at h
          refine ⟨?_, h.2⟩
          show (decide (48 ≤ nn c) && decide (nn c ≤ 57)) = true
          rw [Bool.and_eq_true, decide_eq_true_eq, decide_eq_true_eq]
          omega
        have h1 := dig_dv c.toNat hc256 hdg.1
        rw [show UInt8.ofNat c.toNat = c from by simp] at h1
        obtain ⟨h1, h2, h3⟩ := h1
        have h55 : (c.toNat : Int) ≤ 55 := hdg.2
        rw [h1] at hsum hdv0 HH
        have icut : a < 2305843009213693952 := by omega
        clear h1 hdg hpc
        go_wp2_with fail
        go_round
        case rel => exact ⟨k + 1, _, rfl, rfl, by go_num, by omega, HH⟩
        case measure => simp [intOf]; omega
      | false =>
        have hno : ok = false := by
          rw [← HO.out]
          refine Bool.eq_false_iff.2 fun h => ?_
          have := List.all_eq_true.1 h c hmem
          rw [hpc] at this; cases this
        subst hno
        have hxz := bits_lo_u8 .or (c.toNat : Int) 32
        have hxy := bits_hi_u8 .or (c.toNat : Int) 32
        have hnd : ¬ (48 ≤ c.toNat ∧ c.toNat ≤ 55) := by
          intro h
          have : oc (nn c) = true := by
            show (decide (48 ≤ (c.toNat : Int)) && decide ((c.toNat : Int) ≤ 55)) = true
            simp; omega
          rw [hpc] at this; cases this
        clear hh hmem htake hpc
        by_cases h95 : c.toNat = 95
        · have hz : bits .or .u8 (95 : Int) 32 = 127 := by decide +kernel
          go_wp2_with (go_at_call 122; refine (Tryz.internal_strconv_lower _ _).mono ?_; (first | rw [hz] | skip); rintro e w' ⟨rfl, rfl⟩)
          all_goals go_ret2
          all_goals exact ⟨rfl, hbel⟩
        · obtain ⟨z, hz⟩ : ∃ z, bits .or .u8 (c.toNat : Int) 32 = z := ⟨_, rfl⟩
          rw [hz] at hxz hxy
          go_wp2_with (go_at_call 122; refine (Tryz.internal_strconv_lower _ _).mono ?_; rw [hz]; rintro e w' ⟨rfl, rfl⟩)
          all_goals go_ret2
          all_goals exact ⟨rfl, hbel⟩
    · have hkk : k = t.size := by omega
      subst hkk
      have hfull : bs.take t.size = bs := List.take_of_length_le (by omega)
      have hyes : ok = true := by rw [← HO.out, ← hfull]; exact hh.out.2
      subst hyes
      have ha : a = (dvs 8 bs : Int) := by rw [← hfull]; exact hh.out.1
      subst ha
      clear hh hfull
      go_wp2
      go_ret2
      exact ⟨rfl, hbel⟩

end Go.Proofs.YtngofbhlhcalpaaGreatDoor.lexer

namespace Go.Proofs.YtngofbhlhcalpaaGreatDoor.lexer
open Go.RowKit Go.Proofs.YtngofbhlhcalpaaGreatDoor.gen

theorem hx_dv : ∀ n : Nat, n < 256 → hx (n : Int) = true → dv (UInt8.ofNat n) < 16 := by decide +kernel
theorem oc_dv : ∀ n : Nat, n < 256 → oc (n : Int) = true → dv (UInt8.ofNat n) < 8 := by decide +kernel
theorem hx_dv' (c : UInt8) (h : hx (nn c) = true) : dv c < 16 := by have := hx_dv c.toNat c.toNat_lt h; simpa using this
theorem oc_dv' (c : UInt8) (h : oc (nn c) = true) : dv c < 8 := by have := oc_dv c.toNat c.toNat_lt h; simpa using this

theorem dvs_lt (b : Nat) (l : List UInt8) (h : ∀ c ∈ l, dv c < b) : dvs b l < b ^ l.length := by
  have key : ∀ (l : List UInt8) (a : Nat), (∀ c ∈ l, dv c < b) → l.foldl (fun a c => a * b + dv c) a < (a + 1) * b ^ l.length := by
    intro l
    induction l with
    | nil => intro a _; simp
    | cons c r ih =>
      intro a h
      have h1 := ih (a * b + dv c) (fun d hd => h d (List.mem_cons_of_mem _ hd))
      have h2 : dv c < b := h c List.mem_cons_self
      simp only [List.foldl_cons, List.length_cons]
      refine Nat.lt_of_lt_of_le h1 ?_
      rw [Nat.pow_succ, Nat.mul_comm (b ^ r.length) b, ← Nat.mul_assoc]
      refine Nat.mul_le_mul_right _ ?_
      rw [Nat.add_mul]
      omega
  have := key l 0 h
  simpa [dvs] using this

theorem dvs_hex (l : List UInt8) (n : Nat) (hn : l.length ≤ n) (k : Nat) (h : (l.take k).all (fun c => hx (nn c)) = true) : dvs 16 (l.take k) ≤ 16 ^ n - 1 := by
  have h1 := dvs_lt 16 (l.take k) (fun c hc => hx_dv' c (List.all_eq_true.1 h c hc))
  have h2 : 16 ^ (l.take k).length ≤ 16 ^ n := Nat.pow_le_pow_right (by omega) (by rw [List.length_take]; omega)
  omega

def ParseErr (w : World) (e : Ending) (w' : World) : Prop := ∃ N, e = .returned (.tuple #[.int .u64 0, .iface 196 (.pointer (some ⟨N, 0, none⟩))]) ∧ Below w.heap.size w w'

def Syn (w : World) : Prop := ∃ ev, w.cell? ⟨6, 0, none⟩ = some ev ∧ (ev = .nilIface ∨ ∃ te pe, ev = .iface te pe)

theorem Syn.below {w w' : World} (h : Syn w) (hb : Below w.heap.size w w') : Syn w' := by
  obtain ⟨ev, h1, h2⟩ := h
  refine ⟨ev, (hb.cell (p := ⟨6, 0, none⟩) ?_).trans h1, h2⟩
  rcases Nat.lt_or_ge 6 w.heap.size with h' | h'
  · exact h'
  · rw [World.cell?, Array.getElem?_eq_none h'] at h1; cases h1

set_option maxRecDepth 100000 in
theorem parse_16_8 (t : ByteArray) (w : World) (hsyn : Syn w) (h0 : t.size ≠ 0) (hm : t.size ≤ 8) (hv : ∀ k, (t.data.toList.take k).all (fun c => hx (nn c)) = true → dvs 16 (t.data.toList.take k) ≤ 255)
    (ok : Bool) (hok : t.data.toList.all (fun c => hx (nn c)) = ok) :
    Calls Tryz.prog 97 #[.string t, .int .i64 16, .int .i64 8] w (fun e w' => if ok then ParseOk (dvs 16 t.data.toList) w e w' else ParseErr w e w') := by
  have hcall := parseIn_16_8 t w h0 hm hv ok hok
  clear hv hok
  cases ok with
  | true =>
    go_enter Tryz.func97, Tryz.ntmps97
    go_wp2_with fail
    refine hcall.mono ?_
    rintro e w' ⟨rfl, hb⟩
    go_wp2_with fail
    go_ret2
    exact ⟨rfl, hb⟩
  | false =>
    go_enter Tryz.func97, Tryz.ntmps97
    go_wp2_with fail
    refine hcall.mono ?_
    rintro e w1 ⟨rfl, hb⟩
    obtain ⟨ev, hev1, hev2⟩ := hsyn.below hb
    go_wp2_with fail
    refine (Tryz.strconv_toError_syntax _ t 16 8 ev w1 (by omega) hev1 hev2).mono ?_
    rintro e w2 ⟨N, rfl, hN, _, hb2⟩
    go_wp2_with fail
    go_ret2
    exact ⟨N, rfl, hb.trans (hb2.mono hb.size)⟩

set_option maxRecDepth 100000 in
theorem parse_16_32 (t : ByteArray) (w : World) (hsyn : Syn w) (h0 : t.size ≠ 0) (hm : t.size ≤ 8) (hv : ∀ k, (t.data.toList.take k).all (fun c => hx (nn c)) = true → dvs 16 (t.data.toList.take k) ≤ 4294967295)
    (ok : Bool) (hok : t.data.toList.all (fun c => hx (nn c)) = ok) :
    Calls Tryz.prog 97 #[.string t, .int .i64 16, .int .i64 32] w (fun e w' => if ok then ParseOk (dvs 16 t.data.toList) w e w' else ParseErr w e w') := by
  have hcall := parseIn_16_32 t w h0 hm hv ok hok
  clear hv hok
  cases ok with
  | true =>
    go_enter Tryz.func97, Tryz.ntmps97
    go_wp2_with fail
    refine hcall.mono ?_
    rintro e w' ⟨rfl, hb⟩
    go_wp2_with fail
    go_ret2
    exact ⟨rfl, hb⟩
  | false =>
    go_enter Tryz.func97, Tryz.ntmps97
    go_wp2_with fail
    refine hcall.mono ?_
    rintro e w1 ⟨rfl, hb⟩
    obtain ⟨ev, hev1, hev2⟩ := hsyn.below hb
    go_wp2_with fail
    refine (Tryz.strconv_toError_syntax _ t 16 32 ev w1 (by omega) hev1 hev2).mono ?_
    rintro e w2 ⟨N, rfl, hN, _, hb2⟩
    go_wp2_with fail
    go_ret2
    exact ⟨N, rfl, hb.trans (hb2.mono hb.size)⟩

set_option maxRecDepth 100000 in
theorem parse_8_8 (t : ByteArray) (w : World) (hsyn : Syn w) (h0 : t.size ≠ 0) (hm : t.size ≤ 8) (hv : ∀ k, (t.data.toList.take k).all (fun c => oc (nn c)) = true → dvs 8 (t.data.toList.take k) ≤ 255)
    (ok : Bool) (hok : t.data.toList.all (fun c => oc (nn c)) = ok) :
    Calls Tryz.prog 97 #[.string t, .int .i64 8, .int .i64 8] w (fun e w' => if ok then ParseOk (dvs 8 t.data.toList) w e w' else ParseErr w e w') := by
  have hcall := parseIn_8_8 t w h0 hm hv ok hok
  clear hv hok
  cases ok with
  | true =>
    go_enter Tryz.func97, Tryz.ntmps97
    go_wp2_with fail
    refine hcall.mono ?_
    rintro e w' ⟨rfl, hb⟩
    go_wp2_with fail
    go_ret2
    exact ⟨rfl, hb⟩
  | false =>
    go_enter Tryz.func97, Tryz.ntmps97
    go_wp2_with fail
    refine hcall.mono ?_
    rintro e w1 ⟨rfl, hb⟩
    obtain ⟨ev, hev1, hev2⟩ := hsyn.below hb
    go_wp2_with fail
    refine (Tryz.strconv_toError_syntax _ t 8 8 ev w1 (by omega) hev1 hev2).mono ?_
    rintro e w2 ⟨N, rfl, hN, _, hb2⟩
    go_wp2_with fail
    go_ret2
    exact ⟨N, rfl, hb.trans (hb2.mono hb.size)⟩

end Go.Proofs.YtngofbhlhcalpaaGreatDoor.lexer

namespace Go.Proofs.YtngofbhlhcalpaaGreatDoor.lexer
open Go.RowKit Go.Proofs.YtngofbhlhcalpaaGreatDoor.gen
open Go.Proofs.YtngofbhlhcalpaaGreatDoor.upper (bv bv_len)


theorem peek_at (lb fb : Nat) (s : ByteArray) (p : Nat) (i c : Int) (n : Nat) (w : World) (h : Rd w lb fb s p) (hi : i = (n : Int)) (h0 : 0 ≤ c) (hb : byt s ((p + n : Nat) : Int) = c) :
    Calls Tryz.prog 69 #[.pointer (some ⟨lb, 0, none⟩), .int .i64 i] w (Drawn (.int .u8 c) w) := by
  subst hi
  exact peek_any lb fb s p n c w h ⟨by omega, h0, by rw [show (p : Int) + (n : Int) = ((p + n : Nat) : Int) from by omega]; exact hb⟩

theorem qr_escape {s : ByteArray} {p k : Nat} {Q : List UInt8} {uni : Bool} {c d : UInt8} {bs : List UInt8} {n : Nat} (hsuf : suf s (p + k) = c :: d :: suf s (p + k + 2)) (hcl : ((suf s (p + k)).take Q.length == Q) = false) (h92 : nn c = 92) (hn : 1 ≤ n)
    (h : esc uni (d :: suf s (p + k + 2)) = some (bs, n)) :
    qr Q false uni (suf s (p + k)) = (bs ++ (qr Q false uni (suf s (p + (k + n)))).1, (qr Q false uni (suf s (p + (k + n)))).2.1 + n, (qr Q false uni (suf s (p + (k + n)))).2.2) := by
  rw [hsuf, qr_esc _ _ _ _ bs n (by rw [← hsuf]; exact hcl) h92 h]
  have h1 : d :: suf s (p + k + 2) = suf s (p + k + 1) := by
    have := congrArg (List.drop 1) hsuf
    rw [suf_drop'] at this
    simpa using this.symm
  rw [h1, suf_drop', show p + k + 1 + (n - 1) = p + (k + n) from by omega]

/-- The next two bytes. -/
theorem two_on (s : ByteArray) (p : Nat) (h : p + 2 ≤ s.size) : ∃ a b : UInt8, byt s ((p : Nat) : Int) = nn a ∧ byt s ((p + 1 : Nat) : Int) = nn b ∧ suf s p = a :: b :: suf s (p + 2) :=
  ⟨s[p], s[p + 1], byt_in s p (by omega), byt_in s (p + 1) (by omega), by rw [suf_cons s p (by omega), suf_cons s (p + 1) (by omega)]⟩

theorem oct_le (d a b : UInt8) (hd : dv d ≤ 3) (j : Nat) (h : ([d, a, b].take j).all (fun c => oc (nn c)) = true) : dvs 8 ([d, a, b].take j) ≤ 255 := by
  rcases j with _ | _ | _ | j
  · simp [dvs]
  · simp [dvs]; omega
  · simp only [List.take_succ_cons, List.take_zero, List.all_cons, List.all_nil, Bool.and_true, Bool.and_eq_true] at h
    have := oc_dv' a h.2
    simp [dvs]; omega
  · simp only [List.take_succ_cons, List.all_cons, Bool.and_eq_true] at h
    have h1 := oc_dv' a h.2.1
    have h2 := oc_dv' b h.2.2.1
    simp [dvs]; omega

theorem dv_oct (d : UInt8) (h : nn d = 48 ∨ nn d = 49 ∨ nn d = 50 ∨ nn d = 51) : dv d ≤ 3 ∧ oc (nn d) = true := by
  unfold nn at h
  refine ⟨?_, ?_⟩
  · unfold dv; rw [if_pos (by omega)]; omega
  · unfold oc nn; simp; omega

theorem hex2_le (a b : UInt8) (j : Nat) (h : ([a, b].take j).all (fun c => hx (nn c)) = true) : dvs 16 ([a, b].take j) ≤ 255 := by
  have := dvs_hex [a, b] 2 (by simp) j h; simpa using this

end Go.Proofs.YtngofbhlhcalpaaGreatDoor.lexer
