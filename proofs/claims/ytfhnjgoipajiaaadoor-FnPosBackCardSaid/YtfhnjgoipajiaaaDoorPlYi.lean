/-
  Contract of laws.FnPosBack. No statement of the seat is proved here.
-/
import Derived.Test.YtfhnjgoipajiaaaDoorPlYg
namespace Go.Proofs.YtfhnjgoipajiaaaDoor.pl
open Go.RowKit Go.Proofs.YtfhnjgoipajiaaaDoor.gen

/-- It answers true, and what was there is as it was. -/
def TrueRes (w : World) (e : Ending) (w' : World) : Prop := e = .returned (.bool true) ∧ Below w.heap.size w w'

set_option maxRecDepth 100000 in
set_option maxHeartbeats 2000000 in
theorem posBack_no (s : ByteArray) (w : World) (hs : s.size ≤ 2147483647) (hno : 16384 < s.size ∨ parse cls (runesOf s) = none) (hc : Ctx w) : Calls Tryd.prog 3 #[.string s] w (TrueRes w) := by
  have HC := Lib.hid hc
  have HNo := Lib.hid hno
  have d1 : ¬ (2147483647 : Int) < (s.size : Int) := by omega
  clear hc hno
  go_enter Tryd.func3, Tryd.ntmps3
  go_wp2_with fail
  refine (readPos_any s _ hs HC.out).mono ?_
  rintro e w1 ⟨⟨x, av, ho, rfl, hA⟩ | ⟨ho, rfl⟩, hb⟩
  · have d2 : (16384 : Int) < (s.size : Int) := by
      rcases HNo.out with h | h
      · omega
      · rw [h] at ho; cases ho
    obtain ⟨a, m, rfl⟩ := hA.shape
    obtain ⟨l, hl⟩ : ∃ l, (ptPC x).args.length = l := ⟨_, rfl⟩
    rw [hl]
    unfold PTVal
    have HB : Hid (∀ o, Below w.heap.size w (w1.alloc o)) := fun o => hb.alloc hb.size o
    clear ho hA hl hb
    go_wp2_with fail
    refine (readsPos_any _ (HC.out.below (HB.out _))).mono ?_
    rintro e w2 ⟨rfl, hb2⟩
    have HB2 := Lib.hid ((HB.out _).trans (hb2.mono (HB.out _).size))
    clear hb2
    go_wp2_with fail
    go_ret
    exact ⟨rfl, HB2.out⟩
  · have HB : Hid (∀ o, Below w.heap.size w (w1.alloc o)) := fun o => hb.alloc hb.size o
    clear ho hb
    go_wp2_with fail
    all_goals
      refine (readsPos_any _ (HC.out.below (HB.out _))).mono ?_
      rintro e w2 ⟨rfl, hb2⟩
      have HB2 := Lib.hid ((HB.out _).trans (hb2.mono (HB.out _).size))
      clear hb2
      go_wp2_with fail
      go_ret
      exact ⟨rfl, HB2.out⟩

set_option maxRecDepth 100000 in
set_option maxHeartbeats 2000000 in
theorem posBack_main (s : ByteArray) (w : World) (x : PC) (hs : s.size ≤ 16384) (hx : parse cls (runesOf s) = some x) (hc : Ctx w) : Calls Tryd.prog 3 #[.string s] w (TrueRes w) := by
  have hgood := parse_good (runesOf_good s) hx
  have hback := back x hgood
  have hzz : zPC x ≤ 32769 := by
    have h1 := parse_z hx
    have h2 := runesOf_len s
    omega
  have hbd := b_pc Xb rfl x hgood
  have hts : (B (uPC x)).size ≤ 2147483647 := by rw [B_size]; omega
  have hne := gpc_ne Xb rfl x
  obtain ⟨T, hT⟩ : ∃ T, B (uPC x) = T := ⟨_, rfl⟩
  obtain ⟨G, hG⟩ : ∃ G, B (gPC Xb x) = G := ⟨_, rfl⟩
  have hGl : ¬ G.toList = [] := by
    rw [← hG, ByteArray.toList_eq, B_list]
    intro e
    rw [e] at hne
    exact absurd hne (by decide)
  obtain ⟨l, hl⟩ : ∃ l, (ptPC x).args.length = l := ⟨_, rfl⟩
  rw [hT] at hback hts
  have hP1 : ∀ (W : World) (s' : ByteArray), Ctx W → parse cls (runesOf s') = some x → s'.size ≤ 2147483647 → Calls Tryd.prog 6 #[.string s', .string ⟨#[120]⟩] W (fun e W' => e = .returned (.tuple #[.string T, .string G, .bool true]) ∧ Below W.heap.size W W') := fun W s' hW hp hz => by
    refine (printPos_any s' W hz (fun y hy => by rw [hp] at hy; obtain rfl := Option.some.inj hy; omega) hW).mono ?_
    rintro e W' ⟨⟨y, hy, rfl⟩ | ⟨hy, _⟩, hb⟩
    · rw [hp] at hy; obtain rfl := Option.some.inj hy
      rw [hT, hG]
      exact ⟨rfl, hb⟩
    · rw [hp] at hy; cases hy
  have hR1 : ∀ (W : World) (s' : ByteArray), Ctx W → parse cls (runesOf s') = some x → s'.size ≤ 2147483647 → Calls Tryd.prog 4 #[.string s'] W (fun e W' => ∃ a m, e = .returned (.tuple #[.agg #[.string (B (ptPC x).kind), .string (B (ptPC x).name), .int .i64 ((ptPC x).n : Int), .slice a l m], .bool true]) ∧ Hid (ArgsAt W' (fun g => W.heap.size ≤ g) (.slice a l m) (ptPC x).args) ∧ Below W.heap.size W W') := fun W s' hW hp hz => by
    refine (readPos_any s' W hz hW).mono ?_
    rintro e W' ⟨⟨y, av, hy, rfl, hA⟩ | ⟨hy, _⟩, hb⟩
    · rw [hp] at hy; obtain rfl := Option.some.inj hy
      obtain ⟨a, m, rfl⟩ := hA.shape
      rw [hl] at hA ⊢
      exact ⟨a, m, rfl, hA, hb⟩
    · rw [hp] at hy; cases hy
  have HC := Lib.hid hc
  have HX := Lib.hid hx
  have HBack := Lib.hid hback
  have HP1 := Lib.hid hP1
  have HR1 := Lib.hid hR1
  have HL := Lib.hid hl
  have d1 : ¬ (2147483647 : Int) < (s.size : Int) := by omega
  have d2 : ¬ (16384 : Int) < (s.size : Int) := by omega
  clear hc hx hback hP1 hR1 hgood hzz hbd hne hT hG hl
  go_enter Tryd.func3, Tryd.ntmps3
  go_wp2_with fail
  refine (HR1.out _ s HC.out HX.out (by omega)).mono ?_
  rintro e w1 ⟨a1, m1, rfl, HA1, hb1⟩
  have h3 := heap_alloc_new w1 (.cells #[.string (B (ptPC x).kind), .string (B (ptPC x).name), .int .i64 ((ptPC x).n : Int), .slice a1 l m1] 24)
  have hb1a : Below w1.heap.size w1 (w1.alloc (.cells #[.string (B (ptPC x).kind), .string (B (ptPC x).name), .int .i64 ((ptPC x).n : Int), .slice a1 l m1] 24)) := (Below.refl _ _).alloc (Nat.le_refl _) _
  have hA2 := HA1.out.on hb1a
  have HB1 := Lib.hid (hb1.trans (hb1a.mono hb1.size))
  have H3 := Lib.hid h3
  have HA2 := Lib.hid hA2
  clear h3 hb1 hb1a hA2 HA1
  go_wp2_with fail
  generalize w1.alloc (.cells #[.string (B (ptPC x).kind), .string (B (ptPC x).name), .int .i64 ((ptPC x).n : Int), .slice a1 l m1] 24) = W1 at HB1 H3 HA2 ⊢
  refine (HP1.out _ s (HC.out.below HB1.out) HX.out (by omega)).mono ?_
  rintro e w2 ⟨rfl, hb2⟩
  have H3b := Lib.hid (moved H3.out hb2)
  have HA3 := Lib.hid (HA2.out.on hb2)
  have HB2 := Lib.hid (HB1.out.trans (hb2.mono HB1.out.size))
  clear hb2 H3 HA2
  go_wp2_with fail
  refine (HR1.out _ T (HC.out.below HB2.out) HBack.out hts).mono ?_
  rintro e w3 ⟨a2, m2, rfl, HA4, hb3⟩
  have h8 := heap_alloc_new w3 (.cells #[.string (B (ptPC x).kind), .string (B (ptPC x).name), .int .i64 ((ptPC x).n : Int), .slice a2 l m2] 24)
  have hb3a : Below w3.heap.size w3 (w3.alloc (.cells #[.string (B (ptPC x).kind), .string (B (ptPC x).name), .int .i64 ((ptPC x).n : Int), .slice a2 l m2] 24)) := (Below.refl _ _).alloc (Nat.le_refl _) _
  have hb3b := hb3.trans (hb3a.mono hb3.size)
  have H8 := Lib.hid h8
  have HA5 := Lib.hid (HA4.out.on hb3a)
  have H3c := Lib.hid (moved H3b.out hb3b)
  have HA6 := Lib.hid (HA3.out.on hb3b)
  have HB3 := Lib.hid (HB2.out.trans (hb3b.mono HB2.out.size))
  clear h8 hb3 hb3a hb3b HA4 H3b HA3
  go_wp2_with fail
  generalize w3.alloc (.cells #[.string (B (ptPC x).kind), .string (B (ptPC x).name), .int .i64 ((ptPC x).n : Int), .slice a2 l m2] 24) = W3 at H8 HA5 H3c HA6 HB3 ⊢
  refine (HP1.out _ T (HC.out.below HB3.out) HBack.out hts).mono ?_
  rintro e w4 ⟨rfl, hb4⟩
  have hk3 := moved H3c.out hb4
  have hk8 := moved H8.out hb4
  have p0 : w4.cell? ⟨w1.heap.size, 0, none⟩ = some (.string (B (ptPC x).kind)) := block_cell hk3 0
  have p1 : w4.cell? ⟨w1.heap.size, 1, none⟩ = some (.string (B (ptPC x).name)) := block_cell hk3 1
  have p2 : w4.cell? ⟨w1.heap.size, 2, none⟩ = some (.int .i64 ((ptPC x).n : Int)) := block_cell hk3 2
  have p3 : w4.cell? ⟨w1.heap.size, 3, none⟩ = some (.slice a1 l m1) := block_cell hk3 3
  have q0 : w4.cell? ⟨w3.heap.size, 0, none⟩ = some (.string (B (ptPC x).kind)) := block_cell hk8 0
  have q1 : w4.cell? ⟨w3.heap.size, 1, none⟩ = some (.string (B (ptPC x).name)) := block_cell hk8 1
  have q2 : w4.cell? ⟨w3.heap.size, 2, none⟩ = some (.int .i64 ((ptPC x).n : Int)) := block_cell hk8 2
  have q3 : w4.cell? ⟨w3.heap.size, 3, none⟩ = some (.slice a2 l m2) := block_cell hk8 3
  have HSame : Hid (Calls Tryd.prog 7 #[.agg #[.string (B (ptPC x).kind), .string (B (ptPC x).name), .int .i64 ((ptPC x).n : Int), .slice a1 l m1], .agg #[.string (B (ptPC x).kind), .string (B (ptPC x).name), .int .i64 ((ptPC x).n : Int), .slice a2 l m2]] w4 (SameRes w4)) :=
    samePos_any _ (ptPC x) _ _ _ _ w4 (Nat.lt_succ_self _) (HA6.out.on hb4) (HA5.out.on hb4)
  have HB4 := Lib.hid (HB3.out.trans (hb4.mono HB3.out.size))
  clear hk3 hk8 hb4 H3c H8 HA6 HA5
  go_wp2_with (go_at_call 7; refine HSame.out.mono ?_; rintro e w5 ⟨rfl, hb5⟩)
  have HB5 := Lib.hid (HB4.out.trans (hb5.mono HB4.out.size))
  go_ret
  exact ⟨by simp [hGl], HB5.out⟩

set_option maxRecDepth 10000 in
theorem posBack_any (s : ByteArray) (w : World) (hs : s.size ≤ 9223372036854775807) (hc : Ctx w) : Calls Tryd.prog 3 #[.string s] w (TrueRes w) := by
  by_cases h1 : 2147483647 < s.size
  · have d1 : (2147483647 : Int) < (s.size : Int) := by omega
    clear hc
    go_enter Tryd.func3, Tryd.ntmps3
    go_wp2_with fail
    go_ret
    exact ⟨rfl, Below.refl _ _⟩
  · by_cases h2 : 16384 < s.size
    · exact posBack_no s w (by omega) (.inl h2) hc
    · cases hp : parse cls (runesOf s) with
      | none => exact posBack_no s w (by omega) (.inr hp) hc
      | some x => exact posBack_main s w x (by omega) hp hc

end Go.Proofs.YtfhnjgoipajiaaaDoor.pl
