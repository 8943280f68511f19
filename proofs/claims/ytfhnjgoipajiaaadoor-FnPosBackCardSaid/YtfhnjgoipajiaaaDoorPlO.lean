/-
  Contracts of the methods that write the language of positions, each over the contracts of its parts. Printed by unp_gen.py. No statement of the seat is proved here.
-/
import Derived.Test.YtfhnjgoipajiaaaDoorPlN
import Derived.Deep.RegionHeld3
namespace Go.Proofs.YtfhnjgoipajiaaaDoor.pl
open Go.RowKit Go.Proofs.YtfhnjgoipajiaaaDoor.gen

def Ret (T : ByteArray) (W : World) (e : Ending) (w' : World) : Prop := e = .returned (.string T) ∧ Below W.heap.size W w'

/-- A call through an interface value gives this text, in whatever later world. -/
def Inv (W : World) (v : Value) (nm : String) (args : List Value) (T : ByteArray) : Prop :=
  ∃ (t : TypeId) (q : Addr) (k : FuncId), v = .iface t (.pointer (some q)) ∧ (∀ w, (method 278 t (.pointer (some q)) nm).run Tryd.prog w = .ok (k, .pointer (some q)) w) ∧
    (∀ (rs : Array Value) w, (callFunc k rs).run Tryd.prog w = .ok (.enter k rs) w) ∧ ∀ W', Below W.heap.size W W' → Calls Tryd.prog k (.pointer (some q) :: args).toArray W' (Ret T W')
theorem Inv.on {W W' : World} {v : Value} {nm : String} {args : List Value} {T : ByteArray} (h : Inv W v nm args T) (hb : Below W.heap.size W W') : Inv W' v nm args T := by
  obtain ⟨t, q, k, h1, h2, h4, h3⟩ := h
  exact ⟨t, q, k, h1, h2, h4, fun W2 hb2 => h3 W2 (hb.trans (hb2.mono hb.size))⟩

set_option maxRecDepth 100000 in
set_option maxHeartbeats 1000000 in
theorem NodePos_Unparse_c (b : Nat) (v0 : Value) (T0 : ByteArray) (w : World) (hT0 : T0.size ≤ 1099511627776) (h : w.heap[b]? = some (.cells #[v0] 57 (0, 0))) (hI0 : Inv w v0 "Unparse" [] T0) : Calls Tryd.prog 77 #[.pointer (some ⟨b, 0, none⟩)] w (Ret (T0 ++ (⟨#[46, 112, 111, 115]⟩ : ByteArray)) w) := by
  obtain ⟨t0, q0, k0, rfl, hm0, hf0, hc0⟩ := hI0
  have c0 : w.cell? ⟨b, 0, none⟩ = some (.iface t0 (.pointer (some q0))) := block_cell h 0
  have HK0 := Lib.hid hc0
  clear h hc0
  go_enter Tryd.func77, Tryd.ntmps77
  go_wp2_with fail
  refine (HK0.out _ (Below.refl _ _)).mono ?_
  rintro e w1 ⟨rfl, hb1⟩
  go_wp2_with fail
  go_ret
  exact ⟨rfl, hb1⟩

set_option maxRecDepth 100000 in
set_option maxHeartbeats 1000000 in
theorem NodeEnd_Unparse_c (b : Nat) (v0 : Value) (T0 : ByteArray) (w : World) (hT0 : T0.size ≤ 1099511627776) (h : w.heap[b]? = some (.cells #[v0] 59 (0, 0))) (hI0 : Inv w v0 "Unparse" [] T0) : Calls Tryd.prog 79 #[.pointer (some ⟨b, 0, none⟩)] w (Ret (T0 ++ (⟨#[46, 101, 110, 100]⟩ : ByteArray)) w) := by
  obtain ⟨t0, q0, k0, rfl, hm0, hf0, hc0⟩ := hI0
  have c0 : w.cell? ⟨b, 0, none⟩ = some (.iface t0 (.pointer (some q0))) := block_cell h 0
  have HK0 := Lib.hid hc0
  clear h hc0
  go_enter Tryd.func79, Tryd.ntmps79
  go_wp2_with fail
  refine (HK0.out _ (Below.refl _ _)).mono ?_
  rintro e w1 ⟨rfl, hb1⟩
  go_wp2_with fail
  go_ret
  exact ⟨rfl, hb1⟩

set_option maxRecDepth 100000 in
set_option maxHeartbeats 1000000 in
theorem NodePos_PosExprToGo_c (b : Nat) (v0 : Value) (x : ByteArray) (T0 : ByteArray) (w : World) (hT0 : T0.size ≤ 1099511627776) (h : w.heap[b]? = some (.cells #[v0] 57 (0, 0))) (hI0 : Inv w v0 "NodeExprToGo" [.string x] T0) : Calls Tryd.prog 76 #[.pointer (some ⟨b, 0, none⟩), .string x] w (Ret (((⟨#[110, 111, 100, 101, 80, 111, 115, 40]⟩ : ByteArray) ++ T0) ++ (⟨#[41]⟩ : ByteArray)) w) := by
  obtain ⟨t0, q0, k0, rfl, hm0, hf0, hc0⟩ := hI0
  have c0 : w.cell? ⟨b, 0, none⟩ = some (.iface t0 (.pointer (some q0))) := block_cell h 0
  have HK0 := Lib.hid hc0
  clear h hc0
  go_enter Tryd.func76, Tryd.ntmps76
  go_wp2_with fail
  refine (HK0.out _ (Below.refl _ _)).mono ?_
  rintro e w1 ⟨rfl, hb1⟩
  go_wp2_with fail
  go_ret
  exact ⟨rfl, hb1⟩

set_option maxRecDepth 100000 in
set_option maxHeartbeats 1000000 in
theorem NodeEnd_PosExprToGo_c (b : Nat) (v0 : Value) (x : ByteArray) (T0 : ByteArray) (w : World) (hT0 : T0.size ≤ 1099511627776) (h : w.heap[b]? = some (.cells #[v0] 59 (0, 0))) (hI0 : Inv w v0 "NodeExprToGo" [.string x] T0) : Calls Tryd.prog 78 #[.pointer (some ⟨b, 0, none⟩), .string x] w (Ret (((⟨#[110, 111, 100, 101, 69, 110, 100, 40]⟩ : ByteArray) ++ T0) ++ (⟨#[41]⟩ : ByteArray)) w) := by
  obtain ⟨t0, q0, k0, rfl, hm0, hf0, hc0⟩ := hI0
  have c0 : w.cell? ⟨b, 0, none⟩ = some (.iface t0 (.pointer (some q0))) := block_cell h 0
  have HK0 := Lib.hid hc0
  clear h hc0
  go_enter Tryd.func78, Tryd.ntmps78
  go_wp2_with fail
  refine (HK0.out _ (Below.refl _ _)).mono ?_
  rintro e w1 ⟨rfl, hb1⟩
  go_wp2_with fail
  go_ret
  exact ⟨rfl, hb1⟩

set_option maxRecDepth 100000 in
set_option maxHeartbeats 1000000 in
theorem NodeSliceLast_Unparse_c (b : Nat) (v0 : Value) (T0 : ByteArray) (w : World) (hT0 : T0.size ≤ 1099511627776) (h : w.heap[b]? = some (.cells #[v0] 80 (0, 0))) (hI0 : Inv w v0 "Unparse" [] T0) : Calls Tryd.prog 97 #[.pointer (some ⟨b, 0, none⟩)] w (Ret (T0 ++ (⟨#[91, 36, 93]⟩ : ByteArray)) w) := by
  obtain ⟨t0, q0, k0, rfl, hm0, hf0, hc0⟩ := hI0
  have c0 : w.cell? ⟨b, 0, none⟩ = some (.iface t0 (.pointer (some q0))) := block_cell h 0
  have HK0 := Lib.hid hc0
  clear h hc0
  go_enter Tryd.func97, Tryd.ntmps97
  go_wp2_with fail
  refine (HK0.out _ (Below.refl _ _)).mono ?_
  rintro e w1 ⟨rfl, hb1⟩
  go_wp2_with fail
  go_ret
  exact ⟨rfl, hb1⟩

set_option maxRecDepth 100000 in
set_option maxHeartbeats 1000000 in
theorem NodeSliceLast_NodeExprToGo_c (b : Nat) (v0 : Value) (x : ByteArray) (T0 : ByteArray) (w : World) (hT0 : T0.size ≤ 1099511627776) (h : w.heap[b]? = some (.cells #[v0] 80 (0, 0))) (hI0 : Inv w v0 "NodeSliceExprToGo" [.string x] T0) : Calls Tryd.prog 96 #[.pointer (some ⟨b, 0, none⟩), .string x] w (Ret (((⟨#[110, 111, 100, 101, 83, 108, 105, 99, 101, 76, 97, 115, 116, 40]⟩ : ByteArray) ++ T0) ++ (⟨#[41]⟩ : ByteArray)) w) := by
  obtain ⟨t0, q0, k0, rfl, hm0, hf0, hc0⟩ := hI0
  have c0 : w.cell? ⟨b, 0, none⟩ = some (.iface t0 (.pointer (some q0))) := block_cell h 0
  have HK0 := Lib.hid hc0
  clear h hc0
  go_enter Tryd.func96, Tryd.ntmps96
  go_wp2_with fail
  refine (HK0.out _ (Below.refl _ _)).mono ?_
  rintro e w1 ⟨rfl, hb1⟩
  go_wp2_with fail
  go_ret
  exact ⟨rfl, hb1⟩

set_option maxRecDepth 100000 in
set_option maxHeartbeats 1000000 in
theorem Len_Unparse_c (b : Nat) (v0 : Value) (T0 : ByteArray) (w : World) (hT0 : T0.size ≤ 1099511627776) (h : w.heap[b]? = some (.cells #[v0] 85 (0, 0))) (hI0 : Inv w v0 "Unparse" [] T0) : Calls Tryd.prog 99 #[.pointer (some ⟨b, 0, none⟩)] w (Ret (((⟨#[108, 101, 110, 40]⟩ : ByteArray) ++ T0) ++ (⟨#[41]⟩ : ByteArray)) w) := by
  obtain ⟨t0, q0, k0, rfl, hm0, hf0, hc0⟩ := hI0
  have c0 : w.cell? ⟨b, 0, none⟩ = some (.iface t0 (.pointer (some q0))) := block_cell h 0
  have HK0 := Lib.hid hc0
  clear h hc0
  go_enter Tryd.func99, Tryd.ntmps99
  go_wp2_with fail
  refine (HK0.out _ (Below.refl _ _)).mono ?_
  rintro e w1 ⟨rfl, hb1⟩
  go_wp2_with fail
  go_ret
  exact ⟨rfl, hb1⟩

set_option maxRecDepth 100000 in
set_option maxHeartbeats 1000000 in
theorem Len_IntExprToGo_c (b : Nat) (v0 : Value) (x : ByteArray) (T0 : ByteArray) (w : World) (hT0 : T0.size ≤ 1099511627776) (h : w.heap[b]? = some (.cells #[v0] 85 (0, 0))) (hI0 : Inv w v0 "StringExprToGo" [.string x] T0) : Calls Tryd.prog 98 #[.pointer (some ⟨b, 0, none⟩), .string x] w (Ret (((⟨#[108, 101, 110, 40]⟩ : ByteArray) ++ T0) ++ (⟨#[41]⟩ : ByteArray)) w) := by
  obtain ⟨t0, q0, k0, rfl, hm0, hf0, hc0⟩ := hI0
  have c0 : w.cell? ⟨b, 0, none⟩ = some (.iface t0 (.pointer (some q0))) := block_cell h 0
  have HK0 := Lib.hid hc0
  clear h hc0
  go_enter Tryd.func98, Tryd.ntmps98
  go_wp2_with fail
  refine (HK0.out _ (Below.refl _ _)).mono ?_
  rintro e w1 ⟨rfl, hb1⟩
  go_wp2_with fail
  go_ret
  exact ⟨rfl, hb1⟩

set_option maxRecDepth 100000 in
set_option maxHeartbeats 1000000 in
theorem PosAdd_Unparse_c (b : Nat) (v0 v1 : Value) (T0 T1 : ByteArray) (w : World) (hT0 : T0.size ≤ 1099511627776) (hT1 : T1.size ≤ 1099511627776) (h : w.heap[b]? = some (.cells #[v0, v1] 72 (0, 0))) (hI0 : Inv w v0 "Unparse" [] T0) (hI1 : Inv w v1 "Unparse" [] T1) : Calls Tryd.prog 93 #[.pointer (some ⟨b, 0, none⟩)] w (Ret ((T0 ++ (⟨#[32, 43, 32]⟩ : ByteArray)) ++ T1) w) := by
  obtain ⟨t0, q0, k0, rfl, hm0, hf0, hc0⟩ := hI0
  obtain ⟨t1, q1, k1, rfl, hm1, hf1, hc1⟩ := hI1
  have c0 : w.cell? ⟨b, 0, none⟩ = some (.iface t0 (.pointer (some q0))) := block_cell h 0
  have c1 : w.cell? ⟨b, 1, none⟩ = some (.iface t1 (.pointer (some q1))) := block_cell h 1
  have HK0 := Lib.hid hc0
  have HK1 := Lib.hid hc1
  have hs1 : ¬ 9223372036854775807 < T0.size + 3 := by omega
  have hs2 : ¬ 9223372036854775807 < T0.size + 3 + T1.size := by omega
  have hkp : ∀ w', Below w.heap.size w w' → w'.cell? ⟨b, 0, none⟩ = some (.iface t0 (.pointer (some q0))) ∧ w'.cell? ⟨b, 1, none⟩ = some (.iface t1 (.pointer (some q1))) := fun w' hb => ⟨(hb.cell (p := ⟨b, 0, none⟩) (block_lt h)).trans c0, (hb.cell (p := ⟨b, 1, none⟩) (block_lt h)).trans c1⟩
  have HKp := Lib.hid hkp
  have HD := Lib.hid ((Below.refl w.heap.size w).drew)
  clear h hkp hc0 hc1
  go_enter Tryd.func93, Tryd.ntmps93
  go_wp2_with fail
  go_region_held3 (fun w' => w'.cell? ⟨b, 0, none⟩ = some (.iface t0 (.pointer (some q0))) ∧ w'.cell? ⟨b, 1, none⟩ = some (.iface t1 (.pointer (some q1)))) (exact HKp.out _ HD.out) ((first | ((with_reducible refine (HK0.out _ HD.out).mono ?_); rintro e w5 ⟨rfl, hb5⟩; have HD := Lib.hid (HD.out.trans (hb5.mono HD.out.size))) | ((with_reducible refine (HK1.out _ HD.out).mono ?_); rintro e w5 ⟨rfl, hb5⟩; have HD := Lib.hid (HD.out.trans (hb5.mono HD.out.size)))))
  all_goals
    go_wp2_with fail
    go_ret
    exact ⟨rfl, HD.out⟩

set_option maxRecDepth 100000 in
set_option maxHeartbeats 1000000 in
theorem PosAdd_PosExprToGo_c (b : Nat) (v0 v1 : Value) (x : ByteArray) (T0 T1 : ByteArray) (w : World) (hT0 : T0.size ≤ 1099511627776) (hT1 : T1.size ≤ 1099511627776) (h : w.heap[b]? = some (.cells #[v0, v1] 72 (0, 0))) (hI0 : Inv w v0 "PosExprToGo" [.string x] T0) (hI1 : Inv w v1 "IntExprToGo" [.string x] T1) : Calls Tryd.prog 92 #[.pointer (some ⟨b, 0, none⟩), .string x] w (Ret (((((⟨#[112, 111, 115, 65, 100, 100, 40]⟩ : ByteArray) ++ T0) ++ (⟨#[44, 32]⟩ : ByteArray)) ++ T1) ++ (⟨#[41]⟩ : ByteArray)) w) := by
  obtain ⟨t0, q0, k0, rfl, hm0, hf0, hc0⟩ := hI0
  obtain ⟨t1, q1, k1, rfl, hm1, hf1, hc1⟩ := hI1
  have c0 : w.cell? ⟨b, 0, none⟩ = some (.iface t0 (.pointer (some q0))) := block_cell h 0
  have c1 : w.cell? ⟨b, 1, none⟩ = some (.iface t1 (.pointer (some q1))) := block_cell h 1
  have HK0 := Lib.hid hc0
  have HK1 := Lib.hid hc1
  have hs1 : ¬ 9223372036854775807 < 7 + T0.size := by omega
  have hs2 : ¬ 9223372036854775807 < 7 + T0.size + 2 := by omega
  have hs3 : ¬ 9223372036854775807 < 7 + T0.size + 2 + T1.size := by omega
  have hs4 : ¬ 9223372036854775807 < 7 + T0.size + 2 + T1.size + 1 := by omega
  have hkp : ∀ w', Below w.heap.size w w' → w'.cell? ⟨b, 0, none⟩ = some (.iface t0 (.pointer (some q0))) ∧ w'.cell? ⟨b, 1, none⟩ = some (.iface t1 (.pointer (some q1))) := fun w' hb => ⟨(hb.cell (p := ⟨b, 0, none⟩) (block_lt h)).trans c0, (hb.cell (p := ⟨b, 1, none⟩) (block_lt h)).trans c1⟩
  have HKp := Lib.hid hkp
  have HD := Lib.hid ((Below.refl w.heap.size w).drew)
  clear h hkp hc0 hc1
  go_enter Tryd.func92, Tryd.ntmps92
  go_wp2_with fail
  go_region_held3 (fun w' => w'.cell? ⟨b, 0, none⟩ = some (.iface t0 (.pointer (some q0))) ∧ w'.cell? ⟨b, 1, none⟩ = some (.iface t1 (.pointer (some q1)))) (exact HKp.out _ HD.out) ((first | ((with_reducible refine (HK0.out _ HD.out).mono ?_); rintro e w5 ⟨rfl, hb5⟩; have HD := Lib.hid (HD.out.trans (hb5.mono HD.out.size))) | ((with_reducible refine (HK1.out _ HD.out).mono ?_); rintro e w5 ⟨rfl, hb5⟩; have HD := Lib.hid (HD.out.trans (hb5.mono HD.out.size)))))
  all_goals
    go_wp2_with fail
    go_ret
    exact ⟨rfl, HD.out⟩

set_option maxRecDepth 100000 in
set_option maxHeartbeats 1000000 in
theorem NodeSliceIndex_Unparse_c (b : Nat) (v0 v1 : Value) (T0 T1 : ByteArray) (w : World) (hT0 : T0.size ≤ 1099511627776) (hT1 : T1.size ≤ 1099511627776) (h : w.heap[b]? = some (.cells #[v0, v1] 77 (0, 0))) (hI0 : Inv w v0 "Unparse" [] T0) (hI1 : Inv w v1 "Unparse" [] T1) : Calls Tryd.prog 95 #[.pointer (some ⟨b, 0, none⟩)] w (Ret (((T0 ++ (⟨#[91]⟩ : ByteArray)) ++ T1) ++ (⟨#[93]⟩ : ByteArray)) w) := by
  obtain ⟨t0, q0, k0, rfl, hm0, hf0, hc0⟩ := hI0
  obtain ⟨t1, q1, k1, rfl, hm1, hf1, hc1⟩ := hI1
  have c0 : w.cell? ⟨b, 0, none⟩ = some (.iface t0 (.pointer (some q0))) := block_cell h 0
  have c1 : w.cell? ⟨b, 1, none⟩ = some (.iface t1 (.pointer (some q1))) := block_cell h 1
  have HK0 := Lib.hid hc0
  have HK1 := Lib.hid hc1
  have hs1 : ¬ 9223372036854775807 < T0.size + 1 := by omega
  have hs2 : ¬ 9223372036854775807 < T0.size + 1 + T1.size := by omega
  have hs3 : ¬ 9223372036854775807 < T0.size + 1 + T1.size + 1 := by omega
  have hkp : ∀ w', Below w.heap.size w w' → w'.cell? ⟨b, 0, none⟩ = some (.iface t0 (.pointer (some q0))) ∧ w'.cell? ⟨b, 1, none⟩ = some (.iface t1 (.pointer (some q1))) := fun w' hb => ⟨(hb.cell (p := ⟨b, 0, none⟩) (block_lt h)).trans c0, (hb.cell (p := ⟨b, 1, none⟩) (block_lt h)).trans c1⟩
  have HKp := Lib.hid hkp
  have HD := Lib.hid ((Below.refl w.heap.size w).drew)
  clear h hkp hc0 hc1
  go_enter Tryd.func95, Tryd.ntmps95
  go_wp2_with fail
  go_region_held3 (fun w' => w'.cell? ⟨b, 0, none⟩ = some (.iface t0 (.pointer (some q0))) ∧ w'.cell? ⟨b, 1, none⟩ = some (.iface t1 (.pointer (some q1)))) (exact HKp.out _ HD.out) ((first | ((with_reducible refine (HK0.out _ HD.out).mono ?_); rintro e w5 ⟨rfl, hb5⟩; have HD := Lib.hid (HD.out.trans (hb5.mono HD.out.size))) | ((with_reducible refine (HK1.out _ HD.out).mono ?_); rintro e w5 ⟨rfl, hb5⟩; have HD := Lib.hid (HD.out.trans (hb5.mono HD.out.size)))))
  all_goals
    go_wp2_with fail
    go_ret
    exact ⟨rfl, HD.out⟩

set_option maxRecDepth 100000 in
set_option maxHeartbeats 1000000 in
theorem NodeSliceIndex_NodeExprToGo_c (b : Nat) (v0 v1 : Value) (x : ByteArray) (T0 T1 : ByteArray) (w : World) (hT0 : T0.size ≤ 1099511627776) (hT1 : T1.size ≤ 1099511627776) (h : w.heap[b]? = some (.cells #[v0, v1] 77 (0, 0))) (hI0 : Inv w v0 "NodeSliceExprToGo" [.string x] T0) (hI1 : Inv w v1 "IntExprToGo" [.string x] T1) : Calls Tryd.prog 94 #[.pointer (some ⟨b, 0, none⟩), .string x] w (Ret (((((⟨#[110, 111, 100, 101, 83, 108, 105, 99, 101, 73, 110, 100, 101, 120, 40]⟩ : ByteArray) ++ T0) ++ (⟨#[44, 32]⟩ : ByteArray)) ++ T1) ++ (⟨#[41]⟩ : ByteArray)) w) := by
  obtain ⟨t0, q0, k0, rfl, hm0, hf0, hc0⟩ := hI0
  obtain ⟨t1, q1, k1, rfl, hm1, hf1, hc1⟩ := hI1
  have c0 : w.cell? ⟨b, 0, none⟩ = some (.iface t0 (.pointer (some q0))) := block_cell h 0
  have c1 : w.cell? ⟨b, 1, none⟩ = some (.iface t1 (.pointer (some q1))) := block_cell h 1
  have HK0 := Lib.hid hc0
  have HK1 := Lib.hid hc1
  have hs1 : ¬ 9223372036854775807 < 15 + T0.size := by omega
  have hs2 : ¬ 9223372036854775807 < 15 + T0.size + 2 := by omega
  have hs3 : ¬ 9223372036854775807 < 15 + T0.size + 2 + T1.size := by omega
  have hs4 : ¬ 9223372036854775807 < 15 + T0.size + 2 + T1.size + 1 := by omega
  have hkp : ∀ w', Below w.heap.size w w' → w'.cell? ⟨b, 0, none⟩ = some (.iface t0 (.pointer (some q0))) ∧ w'.cell? ⟨b, 1, none⟩ = some (.iface t1 (.pointer (some q1))) := fun w' hb => ⟨(hb.cell (p := ⟨b, 0, none⟩) (block_lt h)).trans c0, (hb.cell (p := ⟨b, 1, none⟩) (block_lt h)).trans c1⟩
  have HKp := Lib.hid hkp
  have HD := Lib.hid ((Below.refl w.heap.size w).drew)
  clear h hkp hc0 hc1
  go_enter Tryd.func94, Tryd.ntmps94
  go_wp2_with fail
  go_region_held3 (fun w' => w'.cell? ⟨b, 0, none⟩ = some (.iface t0 (.pointer (some q0))) ∧ w'.cell? ⟨b, 1, none⟩ = some (.iface t1 (.pointer (some q1)))) (exact HKp.out _ HD.out) ((first | ((with_reducible refine (HK0.out _ HD.out).mono ?_); rintro e w5 ⟨rfl, hb5⟩; have HD := Lib.hid (HD.out.trans (hb5.mono HD.out.size))) | ((with_reducible refine (HK1.out _ HD.out).mono ?_); rintro e w5 ⟨rfl, hb5⟩; have HD := Lib.hid (HD.out.trans (hb5.mono HD.out.size)))))
  all_goals
    go_wp2_with fail
    go_ret
    exact ⟨rfl, HD.out⟩

set_option maxRecDepth 100000 in
set_option maxHeartbeats 1000000 in
theorem IfThenElse_Unparse_c (b : Nat) (v0 v1 v2 : Value) (T0 T1 T2 : ByteArray) (w : World) (hT0 : T0.size ≤ 1099511627776) (hT1 : T1.size ≤ 1099511627776) (hT2 : T2.size ≤ 1099511627776) (h : w.heap[b]? = some (.cells #[v0, v1, v2] 93 (0, 0))) (hI0 : Inv w v0 "Unparse" [] T0) (hI1 : Inv w v1 "Unparse" [] T1) (hI2 : Inv w v2 "Unparse" [] T2) : Calls Tryd.prog 103 #[.pointer (some ⟨b, 0, none⟩)] w (Ret (((((((⟨#[40]⟩ : ByteArray) ++ T0) ++ (⟨#[32, 63, 32]⟩ : ByteArray)) ++ T1) ++ (⟨#[32, 58, 32]⟩ : ByteArray)) ++ T2) ++ (⟨#[41]⟩ : ByteArray)) w) := by
  obtain ⟨t0, q0, k0, rfl, hm0, hf0, hc0⟩ := hI0
  obtain ⟨t1, q1, k1, rfl, hm1, hf1, hc1⟩ := hI1
  obtain ⟨t2, q2, k2, rfl, hm2, hf2, hc2⟩ := hI2
  have c0 : w.cell? ⟨b, 0, none⟩ = some (.iface t0 (.pointer (some q0))) := block_cell h 0
  have c1 : w.cell? ⟨b, 1, none⟩ = some (.iface t1 (.pointer (some q1))) := block_cell h 1
  have c2 : w.cell? ⟨b, 2, none⟩ = some (.iface t2 (.pointer (some q2))) := block_cell h 2
  have HK0 := Lib.hid hc0
  have HK1 := Lib.hid hc1
  have HK2 := Lib.hid hc2
  have hs1 : ¬ 9223372036854775807 < 1 + T0.size := by omega
  have hs2 : ¬ 9223372036854775807 < 1 + T0.size + 3 := by omega
  have hs3 : ¬ 9223372036854775807 < 1 + T0.size + 3 + T1.size := by omega
  have hs4 : ¬ 9223372036854775807 < 1 + T0.size + 3 + T1.size + 3 := by omega
  have hs5 : ¬ 9223372036854775807 < 1 + T0.size + 3 + T1.size + 3 + T2.size := by omega
  have hs6 : ¬ 9223372036854775807 < 1 + T0.size + 3 + T1.size + 3 + T2.size + 1 := by omega
  have hkp : ∀ w', Below w.heap.size w w' → w'.cell? ⟨b, 0, none⟩ = some (.iface t0 (.pointer (some q0))) ∧ w'.cell? ⟨b, 1, none⟩ = some (.iface t1 (.pointer (some q1))) ∧ w'.cell? ⟨b, 2, none⟩ = some (.iface t2 (.pointer (some q2))) := fun w' hb => ⟨(hb.cell (p := ⟨b, 0, none⟩) (block_lt h)).trans c0, (hb.cell (p := ⟨b, 1, none⟩) (block_lt h)).trans c1, (hb.cell (p := ⟨b, 2, none⟩) (block_lt h)).trans c2⟩
  have HKp := Lib.hid hkp
  have HD := Lib.hid ((Below.refl w.heap.size w).drew)
  clear h hkp hc0 hc1 hc2
  go_enter Tryd.func103, Tryd.ntmps103
  go_wp2_with fail
  go_region_held3 (fun w' => w'.cell? ⟨b, 0, none⟩ = some (.iface t0 (.pointer (some q0))) ∧ w'.cell? ⟨b, 1, none⟩ = some (.iface t1 (.pointer (some q1))) ∧ w'.cell? ⟨b, 2, none⟩ = some (.iface t2 (.pointer (some q2)))) (exact HKp.out _ HD.out) ((first | ((with_reducible refine (HK0.out _ HD.out).mono ?_); rintro e w5 ⟨rfl, hb5⟩; have HD := Lib.hid (HD.out.trans (hb5.mono HD.out.size))) | ((with_reducible refine (HK1.out _ HD.out).mono ?_); rintro e w5 ⟨rfl, hb5⟩; have HD := Lib.hid (HD.out.trans (hb5.mono HD.out.size))) | ((with_reducible refine (HK2.out _ HD.out).mono ?_); rintro e w5 ⟨rfl, hb5⟩; have HD := Lib.hid (HD.out.trans (hb5.mono HD.out.size)))))
  all_goals
    go_wp2_with fail
    go_ret
    exact ⟨rfl, HD.out⟩

set_option maxRecDepth 100000 in
set_option maxHeartbeats 1000000 in
theorem IfThenElse_IntExprToGo_c (b : Nat) (v0 v1 v2 : Value) (x : ByteArray) (T0 T1 T2 : ByteArray) (w : World) (hT0 : T0.size ≤ 1099511627776) (hT1 : T1.size ≤ 1099511627776) (hT2 : T2.size ≤ 1099511627776) (h : w.heap[b]? = some (.cells #[v0, v1, v2] 93 (0, 0))) (hI0 : Inv w v0 "BoolExprToGo" [.string x] T0) (hI1 : Inv w v1 "IntExprToGo" [.string x] T1) (hI2 : Inv w v2 "IntExprToGo" [.string x] T2) : Calls Tryd.prog 102 #[.pointer (some ⟨b, 0, none⟩), .string x] w (Ret (((((((⟨#[105, 102, 84, 104, 101, 110, 69, 108, 115, 101, 40]⟩ : ByteArray) ++ T0) ++ (⟨#[44, 32]⟩ : ByteArray)) ++ T1) ++ (⟨#[44, 32]⟩ : ByteArray)) ++ T2) ++ (⟨#[41]⟩ : ByteArray)) w) := by
  obtain ⟨t0, q0, k0, rfl, hm0, hf0, hc0⟩ := hI0
  obtain ⟨t1, q1, k1, rfl, hm1, hf1, hc1⟩ := hI1
  obtain ⟨t2, q2, k2, rfl, hm2, hf2, hc2⟩ := hI2
  have c0 : w.cell? ⟨b, 0, none⟩ = some (.iface t0 (.pointer (some q0))) := block_cell h 0
  have c1 : w.cell? ⟨b, 1, none⟩ = some (.iface t1 (.pointer (some q1))) := block_cell h 1
  have c2 : w.cell? ⟨b, 2, none⟩ = some (.iface t2 (.pointer (some q2))) := block_cell h 2
  have HK0 := Lib.hid hc0
  have HK1 := Lib.hid hc1
  have HK2 := Lib.hid hc2
  have hs1 : ¬ 9223372036854775807 < 11 + T0.size := by omega
  have hs2 : ¬ 9223372036854775807 < 11 + T0.size + 2 := by omega
  have hs3 : ¬ 9223372036854775807 < 11 + T0.size + 2 + T1.size := by omega
  have hs4 : ¬ 9223372036854775807 < 11 + T0.size + 2 + T1.size + 2 := by omega
  have hs5 : ¬ 9223372036854775807 < 11 + T0.size + 2 + T1.size + 2 + T2.size := by omega
  have hs6 : ¬ 9223372036854775807 < 11 + T0.size + 2 + T1.size + 2 + T2.size + 1 := by omega
  have hkp : ∀ w', Below w.heap.size w w' → w'.cell? ⟨b, 0, none⟩ = some (.iface t0 (.pointer (some q0))) ∧ w'.cell? ⟨b, 1, none⟩ = some (.iface t1 (.pointer (some q1))) ∧ w'.cell? ⟨b, 2, none⟩ = some (.iface t2 (.pointer (some q2))) := fun w' hb => ⟨(hb.cell (p := ⟨b, 0, none⟩) (block_lt h)).trans c0, (hb.cell (p := ⟨b, 1, none⟩) (block_lt h)).trans c1, (hb.cell (p := ⟨b, 2, none⟩) (block_lt h)).trans c2⟩
  have HKp := Lib.hid hkp
  have HD := Lib.hid ((Below.refl w.heap.size w).drew)
  clear h hkp hc0 hc1 hc2
  go_enter Tryd.func102, Tryd.ntmps102
  go_wp2_with fail
  go_region_held3 (fun w' => w'.cell? ⟨b, 0, none⟩ = some (.iface t0 (.pointer (some q0))) ∧ w'.cell? ⟨b, 1, none⟩ = some (.iface t1 (.pointer (some q1))) ∧ w'.cell? ⟨b, 2, none⟩ = some (.iface t2 (.pointer (some q2)))) (exact HKp.out _ HD.out) ((first | ((with_reducible refine (HK0.out _ HD.out).mono ?_); rintro e w5 ⟨rfl, hb5⟩; have HD := Lib.hid (HD.out.trans (hb5.mono HD.out.size))) | ((with_reducible refine (HK1.out _ HD.out).mono ?_); rintro e w5 ⟨rfl, hb5⟩; have HD := Lib.hid (HD.out.trans (hb5.mono HD.out.size))) | ((with_reducible refine (HK2.out _ HD.out).mono ?_); rintro e w5 ⟨rfl, hb5⟩; have HD := Lib.hid (HD.out.trans (hb5.mono HD.out.size)))))
  all_goals
    go_wp2_with fail
    go_ret
    exact ⟨rfl, HD.out⟩

set_option maxRecDepth 100000 in
theorem Var_Unparse_c (b : Nat) (T0 : ByteArray) (w : World) (h : w.heap[b]? = some (.cells #[.string T0] 52 (0, 0))) : Calls Tryd.prog 75 #[.pointer (some ⟨b, 0, none⟩)] w (Ret T0 w) := by
  have c0 : w.cell? ⟨b, 0, none⟩ = some (.string T0) := block_cell h 0
  clear h
  go_enter Tryd.func75, Tryd.ntmps75
  go_wp2_with fail
  go_ret
  exact ⟨rfl, Below.refl _ _⟩

set_option maxRecDepth 100000 in
theorem Var_PosExprToGo_c (b : Nat) (x T0 : ByteArray) (w : World) (hx : x.size ≤ 1099511627776) (hT : T0.size ≤ 1099511627776) (h : w.heap[b]? = some (.cells #[.string T0] 52 (0, 0))) : Calls Tryd.prog 74 #[.pointer (some ⟨b, 0, none⟩), .string x] w (Ret ((x ++ (⟨#[46]⟩ : ByteArray)) ++ T0) w) := by
  have c0 : w.cell? ⟨b, 0, none⟩ = some (.string T0) := block_cell h 0
  clear h
  go_enter Tryd.func74, Tryd.ntmps74
  go_wp2_with fail
  go_ret
  exact ⟨rfl, Below.refl _ _⟩

set_option maxRecDepth 100000 in
theorem Var_NodeExprToGo_c (b : Nat) (x T0 : ByteArray) (w : World) (hx : x.size ≤ 1099511627776) (hT : T0.size ≤ 1099511627776) (h : w.heap[b]? = some (.cells #[.string T0] 52 (0, 0))) : Calls Tryd.prog 110 #[.pointer (some ⟨b, 0, none⟩), .string x] w (Ret (((((⟨#[119, 114, 97, 112, 78, 111, 100, 101, 40]⟩ : ByteArray) ++ x) ++ (⟨#[46]⟩ : ByteArray)) ++ T0) ++ (⟨#[41]⟩ : ByteArray)) w) := by
  have c0 : w.cell? ⟨b, 0, none⟩ = some (.string T0) := block_cell h 0
  clear h
  go_enter Tryd.func110, Tryd.ntmps110
  go_wp2_with fail
  go_ret
  exact ⟨rfl, Below.refl _ _⟩

set_option maxRecDepth 100000 in
theorem Var_NodeSliceExprToGo_c (b : Nat) (x T0 : ByteArray) (w : World) (hx : x.size ≤ 1099511627776) (hT : T0.size ≤ 1099511627776) (h : w.heap[b]? = some (.cells #[.string T0] 52 (0, 0))) : Calls Tryd.prog 111 #[.pointer (some ⟨b, 0, none⟩), .string x] w (Ret ((x ++ (⟨#[46]⟩ : ByteArray)) ++ T0) w) := by
  have c0 : w.cell? ⟨b, 0, none⟩ = some (.string T0) := block_cell h 0
  clear h
  go_enter Tryd.func111, Tryd.ntmps111
  go_wp2_with fail
  go_ret
  exact ⟨rfl, Below.refl _ _⟩

set_option maxRecDepth 100000 in
theorem Var_BoolExprToGo_c (b : Nat) (x T0 : ByteArray) (w : World) (hx : x.size ≤ 1099511627776) (hT : T0.size ≤ 1099511627776) (h : w.heap[b]? = some (.cells #[.string T0] 52 (0, 0))) : Calls Tryd.prog 109 #[.pointer (some ⟨b, 0, none⟩), .string x] w (Ret ((x ++ (⟨#[46]⟩ : ByteArray)) ++ T0) w) := by
  have c0 : w.cell? ⟨b, 0, none⟩ = some (.string T0) := block_cell h 0
  clear h
  go_enter Tryd.func109, Tryd.ntmps109
  go_wp2_with fail
  go_ret
  exact ⟨rfl, Below.refl _ _⟩

set_option maxRecDepth 100000 in
theorem Var_StringExprToGo_c (b : Nat) (x T0 : ByteArray) (w : World) (hx : x.size ≤ 1099511627776) (hT : T0.size ≤ 1099511627776) (h : w.heap[b]? = some (.cells #[.string T0] 52 (0, 0))) : Calls Tryd.prog 112 #[.pointer (some ⟨b, 0, none⟩), .string x] w (Ret ((x ++ (⟨#[46]⟩ : ByteArray)) ++ T0) w) := by
  have c0 : w.cell? ⟨b, 0, none⟩ = some (.string T0) := block_cell h 0
  clear h
  go_enter Tryd.func112, Tryd.ntmps112
  go_wp2_with fail
  go_ret
  exact ⟨rfl, Below.refl _ _⟩

end Go.Proofs.YtfhnjgoipajiaaaDoor.pl
